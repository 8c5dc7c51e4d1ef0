import PyProof.Rows.All
import Wide.All
import OpenK.AllK
import Wide.FinOn
import PySem.Challenge.RW_dp0021_01
set_option Elab.async false
set_option rowWalk.seconds 0
set_option genSizeOf false
section
open PySem PySem.W PyProof.Rows PySem.Calls
set_option maxRecDepth 100000
namespace Mine
open PySem.Sem (wp)

/-- the caller of the claim stands on the stack, under the code that runs -/
noncomputable def UnderB (Γ : Ctx) : Prop := Γ.below.any (fun x => x.1.isCaller) = true
/-- the caller of the claim stands on the stack -/
noncomputable def Under (Γ : Ctx) : Prop := Γ.code.isCaller = true ∨ UnderB Γ

theorem Under.enter {Γ : Ctx} (h : Under Γ) (c : Code) (hd : Option Value) (p : Pos) : UnderB (Γ.enter c hd p) := by
  unfold UnderB Ctx.enter
  rw [List.any_cons]
  rcases h with h | h
  · simp [h]
  · simp only [Bool.or_eq_true]; exact .inr h

noncomputable def wpC {α : Type} (M : Model) (A : Around) (t : Sem α) (Q : α → Shared → Prop) (E : Value → Shared → Prop) (s : Shared) : Prop :=
  ∀ Γ p, Γ.In A → Under Γ → wp M Γ t (fun a _ s' => Q a s') (fun e _ s' => E e s') p s

noncomputable def codeC (M : Model) (A : Around) (c : Code) (R : Result → Shared → Prop) (s : Shared) : Prop :=
  ∀ Γ p, Γ.code = c → Γ.Below A → UnderB Γ → wpCode M Γ R p s

section
variable {α β : Type} {M : Model} {A : Around} {E : Value → Shared → Prop} {s : Shared}

theorem wpC_of {t : Sem α} {Q : α → Shared → Prop} (h : wpAny M A t Q E s) : wpC M A t Q E s := fun Γ p hΓ _ => h Γ p hΓ
theorem codeC_of {c : Code} {R : Result → Shared → Prop} (h : codeAny M A c R s) : codeC M A c R s := fun Γ p hc hΓ _ => h Γ p hc hΓ

theorem wpC_pure {a : α} {Q : α → Shared → Prop} (h : Q a s) : wpC M A (pure a) Q E s := wpC_of (wpAny_pure h)

theorem wpC_mono {t : Sem α} {Q Q' : α → Shared → Prop} {E' : Value → Shared → Prop} (h : wpC M A t Q E s)
    (hQ : ∀ a s, Q a s → Q' a s) (hE : ∀ e s, E e s → E' e s) : wpC M A t Q' E' s :=
  fun Γ p hΓ hu => Sem.wp_mono M Γ t (fun a _ s => hQ a s) (fun e _ s => hE e s) p s (h Γ p hΓ hu)

theorem wpC_bind {m : Sem α} {f : α → Sem β} {Q : β → Shared → Prop} (h : wpC M A m (fun a s' => wpC M A (f a) Q E s') E s) :
    wpC M A (m >>= f) Q E s := fun Γ p hΓ hu => by
  rw [Sem.wp_bind']
  exact Sem.wp_mono M Γ m (fun a p' s' h' => h' Γ p' hΓ hu) (fun _ _ _ h' => h') p s (h Γ p hΓ hu)

theorem wpC_onRaise {m : Sem α} {k : Value → Sem Unit} {Q : α → Shared → Prop}
    (h : wpC M A m Q (fun e s' => wpC M A (k e) (fun _ s'' => E e s'') E s') s) : wpC M A (m.onRaise k) Q E s := fun Γ p hΓ hu => by
  rw [Sem.wp_onRaise]
  exact Sem.wp_mono M Γ m (fun _ _ _ h' => h') (fun e p' s' h' => h' Γ p' hΓ hu) p s (h Γ p hΓ hu)

theorem wpC_attempt {m : Sem α} {Q : Except Value α → Shared → Prop} (h : wpC M A m (fun a => Q (.ok a)) (fun e => Q (.error e)) s) :
    wpC M A m.attempt Q E s := fun Γ p hΓ hu => by rw [Sem.wp_attempt]; exact h Γ p hΓ hu

theorem wpC_tryCatch {m : Sem α} {k : Value → Sem α} {Q : α → Shared → Prop} (h : wpC M A m Q (fun e s' => wpC M A (k e) Q E s') s) :
    wpC M A (tryCatch m k) Q E s := fun Γ p hΓ hu => by
  rw [Sem.wp_tryCatch']
  exact Sem.wp_mono M Γ m (fun _ _ _ h' => h') (fun e p' s' h' => h' Γ p' hΓ hu) p s (h Γ p hΓ hu)

theorem wpC_holding {vs : List Value} {m : Sem α} {Q : α → Shared → Prop} (h : wpC M A m Q E s) : wpC M A (holding vs m) Q E s :=
  fun Γ p hΓ hu => by rw [Sem.wp_holding]; exact h Γ p hΓ hu

theorem codeC_mono {c : Code} {R R' : Result → Shared → Prop} (h : codeC M A c R s) (hR : ∀ r s, R r s → R' r s) : codeC M A c R' s :=
  fun Γ p hc hΓ hu => wpCode_mono hR (h Γ p hc hΓ hu)

theorem wpC_run {c : Code} {h : Option Value} {Q : Flow → Shared → Prop}
    (hc : codeC M (A.mark h) c (fun r s' => match r with | .ok f => Q f s' | .error e => E e s') s) (hnb : h ≠ some byPass := by intro x; cases x) :
    wpC M A (run c h) Q E s :=
  fun Γ p hΓ hu => by rw [Sem.wp_run]; exact hc _ p rfl (hΓ.enter c h p hnb) (hu.enter c h p)

theorem wpC_runValue {c : Code} {Q : Value → Shared → Prop}
    (hc : codeC M A c (fun r s' => match r with | .ok (.ret v) => Q v s' | .ok _ => False | .error e => E e s') s) :
    wpC M A (runValue c) Q E s := fun Γ p hΓ hu => by rw [Sem.wp_runValue]; exact hc _ p rfl (hΓ.enter c none p (by intro x; cases x)) (hu.enter c none p)

theorem wpC_call {f : Value} {pos : List Value} {kw : List (Str × Value)} {Q : Value → Shared → Prop}
    (hc : codeC M A (.call f ⟨pos, kw⟩) (fun r s' => match r with | .ok (.ret v) => Q v s' | .ok _ => False | .error e => E e s') s) :
    wpC M A (call f pos kw) Q E s := wpC_runValue hc

theorem codeC_of_tree {c : Code} {R : Result → Shared → Prop}
    (h : wpC M (A.under c) (M.den c) (fun fin s' => match fin with | .done f => R (.ok f) s' | .again c' => c'.quiet = true ∧ codeC M A c' R s')
      (fun e s' => R (.error e) s') s) : codeC M A c R s := fun Γ p hc hΓ hu => by
  subst hc
  rw [wpCode_iff_wp]
  refine Sem.wp_mono M Γ _ ?_ (fun _ _ _ q => q) p s (h Γ p hΓ.in (.inr hu))
  rintro (f | c') p' s' q
  · exact q
  · exact q.imp id fun code => code (Γ.goto c') p' rfl (hΓ.goto c') hu

theorem wpC_stack_any {f : Code × Pos → Bool} {Q : List (Code × Pos) → Shared → Prop}
    (h : ∀ st : List (Code × Pos), st.any (fun x => x.1.isCaller) = true → Q st s) : wpC M A stack Q E s := fun Γ p _ hu => by
  show Q ((Γ.code, p) :: Γ.below) s
  refine h _ ?_
  rw [List.any_cons]
  rcases hu with hu | hu
  · simp [hu]
  · simp only [Bool.or_eq_true]; exact .inr hu
end

theorem madeNot {own : List String} {l : List Code} (h : l.any Code.isCaller = true) : pythonCodeMadeTheCall own l = false := by
  unfold pythonCodeMadeTheCall
  show (!(l.any Code.isCaller) && _ && _) = false
  rw [h]; rfl

theorem wpC_markTheRefusal {M : Model} {A : Around} {E : Value → Shared → Prop} {s : Shared} {own : List String} {e : Value} {Q : Unit → Shared → Prop} (h : Q () s) : wpC M A (markTheRefusal own e) Q E s := by
  unfold markTheRefusal
  refine wpC_bind (wpC_stack_any (f := fun _ => true) fun st hst => ?_)
  have hz : pythonCodeMadeTheCall own (st.map (·.1)) = false := madeNot (by rw [List.any_map]; exact hst)
  rw [hz]
  exact wpC_pure h
end Mine
end
section
open PySem PySem.W PyProof.Rows PySem.Calls PySem.NumText
set_option maxRecDepth 100000
set_option maxHeartbeats 4000000
namespace Mine
open PySem.Sem (wp)
theorem wpC_rule {M : Model} {A : Around} {E : Value → Shared → Prop} {s : Shared} {tag : String} {Q : Unit → Shared → Prop} (h : Q () s) : wpC M A (rule tag) Q E s := wpC_of (wpAny_rule h)
theorem wpC_of_eq {α : Type} {M : Model} {A : Around} {E : Value → Shared → Prop} {s : Shared} {t : Sem α} {a : α} {Q : α → Shared → Prop} (e : t = pure a) (h : Q a s) : wpC M A t Q E s := by rw [e]; exact wpC_pure h

theorem codeC_builtin {prog : Program} {w : World} {A : Around} {s : Shared} {R : Result → Shared → Prop} {id : String} {args : Args} {b : Builtin} (hb : entryFor table id = some b)
    (h : wpC (model prog w) (A.under (.builtin id args)) (b args)
      (fun fin s' => match fin with | .done f => R (.ok f) s' | .again c' => c'.quiet = true ∧ codeC (model prog w) A c' R s') (fun e s' => R (.error e) s') s) :
    codeC (model prog w) A (.builtin id args) R s := by
  refine codeC_of_tree ?_
  show wpC _ _ (match entryFor table id with | some b => b args | none => unsupported ((withoutEnding? id "#data").getD id)) _ _ s
  rw [hb]; exact h

theorem codeC_call_builtin {prog : Program} {w : World} {A : Around} {s : Shared} {R : Result → Shared → Prop} {id : String} {args : Args} {b : Builtin} (hp : plainId id = true) (hb : entryFor table id = some b) (hc : checkBuiltinCall id args = pure ())
    (h : wpC (model prog w) A.in1 (b args) (fun fin s' => match fin with | .done f => R (.ok f) s' | .again c' => c'.quiet = true ∧ codeC (model prog w) A c' R s') (fun e s' => R (.error e) s') s) :
    codeC (model prog w) A (.call (.builtin id) args) R s := by
  refine codeC_of_tree ?_
  show wpC _ A.in1 (do checkBuiltinCall id args; again (.builtin id args)) _ _ s
  refine wpC_bind (wpC_of_eq hc (wpC_pure (And.intro (plainId_quiet hp _) (codeC_builtin hb ?_))))
  rw [Around.under_plainId hp]; exact h

theorem call_int_raises {prog : Program} {w : World} {A : Around} {E : Value → Shared → Prop} {s : Shared} {Q : Value → Shared → Prop} {x : Value}
    (h : wpC (model prog w) A.in1.in1 (Builtin.«int.__new__» ⟨[.type "int", x], []⟩) (fun _ _ => False) E s) : wpC (model prog w) A (call (.type "int") [x]) Q E s := by
  have ft := F.called_int
  obtain ⟨c, tl, hmro⟩ := ft.mro
  have hmade := ft.made
  have h1 := ft.notType
  have h2 := ft.canCreate
  refine wpC_call (codeC_of_tree ?_)
  show wpC _ _ (callAny (.type "int") _) _ _ _
  refine wpC_pure ⟨Code.quiet_builtin _ (by decide +kernel), codeC_builtin F.entry_type_call ?_⟩
  rw [Around.under_plain (weight_type_call_type "int" [x] []) (units_type_call_type "int" [x] [])]
  unfold Builtin.«type.__call__»
  dsimp only
  rw [h1]
  simp only [Bool.false_eq_true, if_false]
  rw [if_neg (by rw [h2]; exact Bool.false_ne_true)]
  refine wpC_bind (wpC_of_eq (F.typeCall_int_1 x) ?_)
  refine wpC_bind (wpC_of_eq hmro ?_)
  rw [if_neg (by simp)]
  refine wpC_bind (wpC_of_eq hmade ?_)
  refine wpC_bind (wpC_pure ?_)
  refine wpC_bind (wpC_holding (wpC_call ?_))
  refine codeC_call_builtin ft.plain F.entry_int_new (F.newCall_int_1 x) ?_
  exact wpC_mono h (fun _ _ z => z.elim) fun _ _ z => z


theorem wpC_ite_false {α : Type} {M : Model} {A : Around} {E : Value → Shared → Prop} {s : Shared} {c : Prop} [Decidable c] {a b : Sem α} {Q : α → Shared → Prop} (hc : ¬ c) (h : wpC M A b Q E s) : wpC M A (if c then a else b) Q E s := by rw [if_neg hc]; exact h
theorem wpC_ite_true {α : Type} {M : Model} {A : Around} {E : Value → Shared → Prop} {s : Shared} {c : Prop} [Decidable c] {a b : Sem α} {Q : α → Shared → Prop} (hc : c) (h : wpC M A a Q E s) : wpC M A (if c then a else b) Q E s := by rw [if_pos hc]; exact h



theorem intFromText_bad {prog : Program} {w : World} {A : Around} {E : Value → Shared → Prop} {s : Shared} {x : Str} {u : Tok} {Q : Value → Shared → Prop} (hA : A.handled = none) (hl : (numSeenOf x).length ≤ 640) (hn : PySem.intText? x = none) (hz : (reprText x).length ≤ sizeLine)
    (hE : ∀ h' tk e, Heap.NewExc s.heap h' e "ValueError" → E (.ref e) { s with heap := h', toks := tk }) : wpC (model prog w) A ((int_private% "intFromText") (.str x u) (numTextOf x) 10) Q E s := by
  have fin : wpC (model prog w) A (do
      let shown ← pyRepr (.str x u)
      let refusal ← newExc (.type "ValueError") [← mkStr (((s!"invalid literal for int() with base {10}: " : String) ++ ⟨shown.cps.extract 0 200⟩ : Str))]
      markTheRefusal ["int.__new__"] refusal
      raiseNew refusal) Q E s := by
    refine wpC_bind (wpC_of (wpAny_pyRepr_str ?_ hz))
    refine wpC_bind (wpC_of (wpAny_mkStr ?_ ?_))
    · refine wpC_bind (wpC_of (wpAny_newExc_plain plainExc_ValueError fun h' e x => ?_))
      refine wpC_bind (wpC_markTheRefusal ?_)
      exact wpC_of (wpAny_raiseNew_none hA (hE _ _ _ x.newExc))
    · rw [sizeLine_eq]
      rw [Str.length_append]
      have e1 : (Str.mk ((reprText x).cps.extract 0 200)).length ≤ 200 := by
        show ((reprText x).cps.extract 0 200).size ≤ 200
        rw [Array.size_extract]; omega
      have e2 : (Str.ofString (s!"invalid literal for int() with base {10}: ")).length ≤ 1000 := by decide +kernel
      omega
  rcases read0 x hl with ⟨m, h1, _, _⟩ | ⟨_, h | ⟨i, h, hne⟩⟩
  · rw [hn] at h1; cases h1
  · refine wpC_ite_true (c := (numSeenOf x).length ≤ 640) hl ?_
    refine wpC_bind (wpC_pure ?_)
    dsimp only
    rw [(h : (int_private% "readNumeral") 0 10 ((numTextOf x).takeWhile (· != 0)) = _)]
    dsimp only
    refine wpC_bind (wpC_of_eq rfl ?_)
    refine wpC_ite_false (by simp) ?_
    refine wpC_bind (wpC_rule ?_)
    refine wpC_bind (wpC_of_eq rfl ?_)
    exact fin
  · refine wpC_ite_true (c := (numSeenOf x).length ≤ 640) hl ?_
    refine wpC_bind (wpC_pure ?_)
    dsimp only
    rw [(h : (int_private% "readNumeral") 0 10 ((numTextOf x).takeWhile (· != 0)) = _)]
    dsimp only
    refine wpC_ite_false hne ?_
    refine wpC_bind (wpC_rule ?_)
    refine wpC_bind (wpC_of_eq rfl ?_)
    exact fin

theorem int_new_bad {prog : Program} {w : World} {A : Around} {E : Value → Shared → Prop} {s : Shared} {x : Str} {u : Tok} {Q : Fin → Shared → Prop} (hA : A.handled = none) (hl : x.length ≤ 640) (hn : PySem.intText? x = none) (hz : (reprText x).length ≤ sizeLine)
    (hE : ∀ h' tk e, Heap.NewExc s.heap h' e "ValueError" → E (.ref e) { s with heap := h', toks := tk }) : wpC (model prog w) A (Builtin.«int.__new__» ⟨[.type "int", .str x u], []⟩) Q E s := by
  have hk : (numSeenOf x).length ≤ 640 := Nat.le_trans (seen_length x) hl
  have f1 := F.conv_sub_int
  have f2 := F.madeHere_int
  have f3 := KIN.str_int
  have f4 := KIN.str_idx
  have f5 := KIN.str_trunc
  have f6 : typeOf (.str x u) = pure (.type "str") := rfl
  unfold Builtin.«int.__new__»
  dsimp only
  ((with_reducible refine wpC_bind (wpC_of ?_)); repeat (first | assumption | wp_step))
  refine wpC_ite_false (by simp) ?_
  ((with_reducible refine wpC_bind (wpC_of ?_)); repeat (first | assumption | wp_step))
  refine wpC_ite_false (by simp) ?_
  ((with_reducible refine wpC_bind (wpC_of ?_)); repeat (first | assumption | wp_step))
  refine wpC_ite_false (by simp) ?_
  refine wpC_ite_false (by simp) ?_
  ((with_reducible refine wpC_bind (wpC_of ?_)); repeat (first | assumption | wp_step))
  refine wpC_bind (m := (int_private% "intFromObject") (.str x u)) ?_
  show wpC (model prog w) A (callSpecial? (.str x u) "__int__" >>= fun r => _) _ _ _
  ((with_reducible refine wpC_bind (wpC_of ?_)); repeat (first | assumption | wp_step))
  dsimp only
  ((with_reducible refine wpC_bind (wpC_of ?_)); repeat (first | assumption | wp_step))
  refine wpC_ite_false (by simp) ?_
  ((with_reducible refine wpC_bind (wpC_of ?_)); repeat (first | assumption | wp_step))
  dsimp only
  refine wpC_bind (wpC_of_eq (a := some (numTextOf x)) rfl ?_)
  dsimp only
  exact intFromText_bad hA hk hn hz hE

/-- int(text), the text no number: a ValueError, new; nothing else has turned -/
theorem call_int_bad {prog : Program} {w : World} {A : Around} {E : Value → Shared → Prop} {s : Shared} {x : Str} {u : Tok} {Q : Value → Shared → Prop} (hA : A.handled = none) (hl : x.length ≤ 640) (hn : PySem.intText? x = none) (hz : (reprText x).length ≤ sizeLine)
    (hE : ∀ h' tk e, Heap.NewExc s.heap h' e "ValueError" → E (.ref e) { s with heap := h', toks := tk }) : wpC (model prog w) A (call (.type "int") [.str x u]) Q E s :=
  call_int_raises (int_new_bad hA hl hn hz hE)
end Mine
end
section
open PySem PySem.W PyProof.Rows PySem.Calls
set_option maxRecDepth 100000
set_option maxHeartbeats 4000000
namespace Mine
open PySem.Sem (wp)
section
variable {prog : Program} {w : World} {M : Model} {A : Around} {E : Value → Shared → Prop} {s : Shared} {env : Env}

/-- a first part that is told for all contexts, then a rest that is told under the claim's caller -/
theorem wpC_then {α β : Type} {m : Sem α} {f : α → Sem β} {Q : β → Shared → Prop} (h : wpAny M A m (fun a s' => wpC M A (f a) Q E s') E s) : wpC M A (m >>= f) Q E s := wpC_bind (wpC_of h)
/-- a first part under the claim's caller, then a rest that is told for all contexts -/
theorem wpC_first {α β : Type} {m : Sem α} {f : α → Sem β} {Q : β → Shared → Prop} (h : wpC M A m (fun a s' => wpAny M A (f a) Q E s') E s) : wpC M A (m >>= f) Q E s :=
  wpC_bind (wpC_mono h (fun _ _ q => wpC_of q) fun _ _ e => e)

theorem execs_nilC {Q : Flow → Shared → Prop} (h : Q .next s) : wpC M A (execs [] env) Q E s := wpC_of (wpAny_execs_nil h)

theorem execs_consC {st : Stmt} {rest : List Stmt} {Q : Flow → Shared → Prop}
    (h : wpC M A (exec st env) (fun f s' => match f with | .next => wpC M A (execs rest env) Q E s' | f => Q f s') E s) :
    wpC M A (execs (st :: rest) env) Q E s :=
  wpC_bind (wpC_mono h (fun f _ q => match f, q with
    | .next, q => q
    | .cont, q => wpC_pure q
    | .brk, q => wpC_pure q
    | .ret _, q => wpC_pure q) fun _ _ e => e)

/-- [a, b] = xs -/
theorem Assign_ListT {elts : List Expr} {tpos : Pos} {value : Expr} {pos : Pos} {Q : Flow → Shared → Prop}
    (h : wpAny M A (eval value env) (fun v s₁ => wpAny M A (assign (.List elts tpos) env v) (fun _ => Q .next) E s₁) E s)
    (hs : swapsWithSole [.List elts tpos] value pos.line env = pure false := by rfl)
    (hw : swappedStores [.List elts tpos] value env = pure none := by rfl) :
    wpAny M A (exec (.Assign [.List elts tpos] value pos) env) Q E s := by
  have plain : exec (.Assign [.List elts tpos] value pos) env = (standAt pos >>= fun _ => eval value env >>= fun v => assign (.List elts tpos) env v >>= fun _ => (pure Flow.next : Sem Flow)) := by
    rw [exec_Assign, hs, hw]; rfl
  rw [plain]
  exact wpAny_bind (wpAny_standAt (wpAny_bind (wpAny_mono h (fun _ _ q => wpAny_bind (wpAny_mono q (fun _ _ z => wpAny_pure z) fun _ _ e => e)) fun _ _ e => e)))

theorem Assign_NameC {x : Str} {pos' : Pos} {value : Expr} {pos : Pos} {Q : Flow → Shared → Prop}
    (h : wpC M A (eval value env) (fun v s₁ => wpAny M A (storeName env x v) (fun _ => Q .next) E s₁) E s)
    (hs : swapsWith value (some (.Name x pos')) pos.line env = pure false := by rfl) :
    wpC M A (exec (.Assign [.Name x pos'] value pos) env) Q E s := by
  rw [exec_Assign_Name env x pos' value pos hs]
  refine wpC_then (wpAny_standAt (wpC_first (wpC_mono h (fun v s₁ q => ?_) fun _ _ e => e)))
  exact wpAny_bind (wpAny_standAt (wpAny_bind (wpAny_bindName (wpAny_mono q (fun _ _ z => wpAny_pure z) fun _ _ e => e))))

theorem If_C {test : Expr} {body orelse : List Stmt} {pos : Pos} {Q : Flow → Shared → Prop}
    (h : wpC M A (isTrue test env (eval test env))
      (fun b s₂ => if b then wpC M A (execs body env) Q E s₂ else wpC M A (execs orelse env) Q E s₂) E s) :
    wpC M A (exec (.If test body orelse pos) env) Q E s := by
  rw [exec_If]
  exact wpC_then (wpAny_standAt (wpC_bind (wpC_mono h (fun b _ q => match b, q with
    | true, q => q
    | false, q => q) fun _ _ e => e)))

theorem isTrue_Compare1C {l : Expr} {op : CmpOp} {r : Expr} {pos : Pos} {whole : Sem Value} {Q : Bool → Shared → Prop}
    (h : wpC M A (eval l env) (fun a s₁ => wpAny M A (eval r env) (fun b s₂ => wpAny M A (compareOp op a b)
      (fun c s₃ => wpAny M A (truthy c) Q E s₃) E s₂) E s₁) E s)
    (hm : behindInMarks op r = false := by with_unfolding_all rfl) : wpC M A (isTrue (.Compare l [op] [r] pos) env whole) Q E s := by
  rw [isTrue_Compare1, markedBehindIn_of_false hm]
  refine wpC_first (wpC_mono h (fun a s₁ q => ?_) fun _ _ e => e)
  refine wpAny_bind (wpAny_holding (wpAny_mono q (fun b s₂ q => ?_) fun _ _ e => e))
  exact wpAny_bind (wpAny_standAt (wpAny_bind (wpAny_operate' (wpAny_mono q (fun c s₃ q => wpAny_holding q) fun _ _ e => e))))

theorem Call_C {func : Expr} {args : List Expr} {pos : Pos} {Q : Value → Shared → Prop}
    (h : wpAny M A (eval func env) (fun f s₁ => wpC M A (callWith pos f [] (backTo pos (starEach args env)) []) Q E s₁) E s)
    (he : eval (.Call func args [] pos) env = (eval func env >>= fun f => callWith pos f [] (backTo pos (starEach args env)) (backToKw pos (keywordEach [] env))) := by rfl) :
    wpC M A (eval (.Call func args [] pos) env) Q E s := by
  rw [he]; exact wpC_then h

/-- a call by its places alone, of what the machine or a frame keeps -/
theorem callWith_C {pos : Pos} {f : Value} {e : Expr} {rest : List Expr} {Q : Value → Shared → Prop} {P : Heap → Prop}
    (keeper : ∀ h, P h → ∃ k, (k = Keeper.frame ∨ k = Keeper.machine) ∧ Looks M h (keeperOf f) k)
    (h : wpAny M A (spliced (backTo pos (starEach (e :: rest) env))) (fun vs s₁ => P s₁.heap ∧ wpC M A (call f vs) Q E s₁) E s)
    (he : starEach (e :: rest) env = (false, eval e env) :: starEach rest env)
    (plain : (backTo pos (starEach rest env)).any (·.1) = false) :
    wpC M A (callWith pos f [] (backTo pos (starEach (e :: rest) env)) []) Q E s := by
  have unstarred : ((backTo pos (starEach (e :: rest) env)).any (·.1) || ([] : List (Option Str × Sem Value)).any (·.1.isNone)) = false := by
    rw [he]; show ((false || (backTo pos (starEach rest env)).any (·.1)) || false) = false; rw [plain]; rfl
  have args : wpAny M A (evalArgs f true (backTo pos (starEach (e :: rest) env)) []) (fun a s₁ => a.kw = [] ∧ P s₁.heap ∧ wpC M A (call f a.pos) Q E s₁) E s := by
    rw [he] at h ⊢
    exact evalArgs_plain (wpAny_mono h (fun _ _ q => ⟨rfl, q⟩) fun _ _ e => e)
  unfold callWith
  refine wpC_then (wpAny_holding (wpAny_mono args ?_ fun _ _ e => e))
  rintro ⟨vs, kw⟩ s₁ ⟨rfl, hP, hc⟩
  obtain ⟨k, hk, look⟩ := keeper _ hP
  refine wpC_then (wpAny_standAt ?_)
  rw [unstarred]
  refine wpC_then (look.here ?_)
  have passed : ∀ t : Sem Value, wpC M A t Q E s₁ → wpC M A (t >>= fun r => holding [r] point >>= fun _ => pure r) Q E s₁ := fun t ht =>
    wpC_first (wpC_mono ht (fun _ _ q => wpAny_bind (wpAny_holding (wpAny_point (wpAny_pure q)))) fun _ _ e => e)
  rcases hk with rfl | rfl
  · show wpC M A (if _ then call f vs [] >>= _ else callMarked plainCall f vs [] >>= _) Q E s₁
    split
    · exact passed _ hc
    · exact passed _ fun Γ p hΓ hu => by unfold callMarked; rw [Sem.wp_keep]; exact hc Γ p hΓ hu
  · exact passed _ hc

theorem callWith_type1C {pos : Pos} {T : String} {e : Expr} {rest : List Expr} {Q : Value → Shared → Prop}
    (h : wpAny M A (spliced (backTo pos (starEach (e :: rest) env))) (fun vs s₁ => wpC M A (call (.type T) vs) Q E s₁) E s)
    (he : starEach (e :: rest) env = (false, eval e env) :: starEach rest env := by rfl) (plain : (backTo pos (starEach rest env)).any (·.1) = false := by rfl) :
    wpC M A (callWith pos (.type T) [] (backTo pos (starEach (e :: rest) env)) []) Q E s :=
  callWith_C (P := fun _ => True) (fun _ _ => ⟨.machine, .inr rfl, Looks.of_pure rfl⟩) (wpAny_mono h (fun _ _ q => ⟨trivial, q⟩) fun _ _ e => e) he plain

theorem callWith_KC {K : Frag} {h₀ : Heap} {pos : Pos} {f : Value} {e : Expr} {rest : List Expr} {Q : Value → Shared → Prop} (_X : K.In h₀) (hk : keepIn K f = true)
    (h : wpAny M A (spliced (backTo pos (starEach (e :: rest) env))) (fun vs s₁ => K.In s₁.heap ∧ wpC M A (call f vs) Q E s₁) E s)
    (he : starEach (e :: rest) env = (false, eval e env) :: starEach rest env := by rfl) (plain : (backTo pos (starEach rest env)).any (·.1) = false := by rfl) :
    wpC M A (callWith pos f [] (backTo pos (starEach (e :: rest) env)) []) Q E s :=
  callWith_C (P := K.In) (fun _ X => looks_keep hk X) h he plain

/-- try: an exception of the body leaves it as it would leave a frame, and the handlers see to it -/
theorem Try_exceptC {body orelse : List Stmt} {h₀ : ExceptHandler} {hs : List ExceptHandler} {pos : Pos} {Q : Flow → Shared → Prop}
    (h : wpC M A (execs body env) (fun f s₁ => match f with | .next => wpAny M A (execs orelse env) Q E s₁ | f => Q f s₁)
      (fun e s₁ => wpAny M A (leaving env e) (fun _ s₂ => wpAny M A (handleBy e env (h₀ :: hs)) Q E s₂) E s₁) s) :
    wpC M A (exec (.Try body (h₀ :: hs) orelse [] pos) env) Q E s := by
  have shape : exec (.Try body (h₀ :: hs) orelse [] pos) env = (standAt pos >>= fun _ => (execs body env).attempt >>= fun r => match r with
      | .ok .next => execs orelse env
      | .ok f => pure f
      | .error e => noteFrame e env >>= fun _ => setFlight e none >>= fun _ => handleBy e env (h₀ :: hs)) := by rw [arm_exec_Try]; rfl
  rw [shape]
  refine wpC_then (wpAny_standAt (wpC_bind (wpC_attempt (wpC_mono h ?_ ?_))))
  · rintro (_ | _ | _ | v) s₁ q
    · exact wpC_of q
    · exact wpC_pure q
    · exact wpC_pure q
    · exact wpC_pure q
  · intro e s₁ q Γ p hΓ _
    have z := wpAny_bind q Γ p hΓ
    unfold leaving at z
    simp only [Sem.wp_bind'] at z ⊢
    exact z
end

section
variable {prog : Program} {w : World} {A : Around} {s : Shared} {R : Result → Shared → Prop}
theorem codeC_func {body : List Stmt} {env : Env}
    (h : wpC (model prog w) (A.deeper env) (execs body env) (fun f s' => R (.ok (.ret (match f with | .ret v => v | _ => .none))) s')
      (fun e s' => wpAny (model prog w) (A.deeper env) (leaving env e) (fun _ s'' => R (.error e) s'') (fun e' s'' => R (.error e') s'') s') s) :
    codeC (model prog w) A (.func body env) R s := by
  have shape : (model prog w).den (.func body env) = (point >>= fun _ => (execs body env).onRaise (leaving env) >>= fun f => match f with
      | .ret v => ret v
      | _ => ret .none) := by rfl
  refine codeC_of_tree ?_
  rw [shape]
  refine wpC_then (wpAny_point (wpC_bind (wpC_onRaise (wpC_mono h ?_ fun _ _ q => wpC_of q))))
  rintro (_ | _ | _ | v) s₁ q <;> exact wpC_pure q

/-- a def without cells is called: its frame is laid, its body runs -/
theorem codeC_call_def {a : Addr} {o : Obj} {fd : FuncData} {body : List Stmt} {args : Args} {binds : List (Str × Value)}
    (hroom : A.depth < recursionLimit) (ho : s.heap.get? a = some o) (hdata : o.data = .func fd) (hlim : s.heap.NoLimit) (hcd : s.heap.CodeRec fd.code fd.qualname)
    (hbody : fd.body = .stmts body) (hbind : BindsTo s fd args binds) (hcell : ∀ x ∈ fd.scope.names, x.2 ≠ .cell) (hloc : ∀ x ∈ binds, fd.scope.names.lookup x.1 = some .local)
    (h : ∀ h₀, h₀.Ns s.heap.objs.size (fun x => binds.reverse.lookup x) → (∀ b o, s.heap.get? b = some o → h₀.get? b = some o) →
      wpC (model prog w) (A.deeper (callEnv fd s.heap.objs.size a)) (execs body (callEnv fd s.heap.objs.size a)) (fun f s' => R (.ok (.ret (match f with | .ret v => v | _ => .none))) s')
        (fun e s' => wpAny (model prog w) (A.deeper (callEnv fd s.heap.objs.size a)) (leaving (callEnv fd s.heap.objs.size a) e) (fun _ s'' => R (.error e) s'') (fun e' s'' => R (.error e') s'') s')
        { s with heap := h₀, toks := s.toks + binds.length })
    (hco : fd.scope.isCoroutine = false := by rfl) (hgen : fd.scope.isGenerator = false := by rfl) (hk : fd.scope.kind = .function := by rfl) :
    codeC (model prog w) A (.call (.ref a) args) R s := by
  obtain ⟨c, oc, vs, tq, ec, hoc, hdc, hq⟩ := hcd
  cases fd
  dsimp only at ec hbody hco hgen
  subst ec hbody
  refine codeC_of_tree (wpC_of ?_)
  show wpAny _ A.in1 (load a >>= _) _ _ s
  refine wpAny_bind (wpAny_load ho ?_)
  rw [hdata]
  show wpAny _ A.in1 (field (.ref c) 1 >>= _) _ _ s
  refine wpAny_bind (wpAny_field hoc hdc hq (wpAny_bind (wpAny_pure ?_)))
  refine wpAny_bind (hbind _ _ _ _ ?_)
  refine wpAny_bind (wpAny_newFunctionEnv hcell hloc (fun h₀ n₀ b₀ => ?_) hk)
  refine wpAny_bind (wpAny_enterFrame (hlim.fresh _ b₀) hroom ?_)
  rw [hgen, hco]
  refine wpAny_pure ⟨rfl, codeC_func (h h₀ n₀ fun b o e => ?_)⟩
  exact b₀.extBut b o (Nat.ne_of_lt (Heap.lt_size e)) (Heap.get?_push_of_some _ e)
end
end Mine
end
section
open PySem PySem.W PyProof.Rows PySem.Calls
set_option maxRecDepth 100000
set_option maxHeartbeats 4000000
namespace Mine
open PySem.Sem (wp)

/-- what has no object behind a turn had none ahead of it -/
theorem turn_unmet {fs : List Addr} {g g' : Heap} (T : KtsTurn fs g g') {b : Addr} (e : g'.get? b = none) : g.get? b = none := by
  cases q : g.get? b with
  | none => rfl
  | some o => obtain ⟨sl, z⟩ := T.up q; rw [e] at z; cases z

section
variable {prog : Program} {w : World} {A₀ : Around} {E : Value → Shared → Prop} {s' : Shared} {base g h : Heap} {outer : List Env} {L a e : Addr} {m : Str → Option Value} {name : Str} {scope : Scope} {cd : Value}
  {b₀ : Stmt} {suite : List Stmt} {pos np : Pos} {rest : List ExceptHandler} {Q : Flow → Shared → Prop} {news : List (Addr × Obj)} {KF : Frag}
  {p : Program} {loose : List Str} {mean : ExcName → Option Value} {mg mb : Str → Option Value} {x : Str} {X T' : String}

/-- an exception that the frame itself has met, of a class X, caught by the frame's own try at any depth: the frames below have turned their slots -/
theorem caught_here (hx : Heap.NewExc h s'.heap e X) (F : Fr g L h m) (N : News g L h news) (K : Below A₀ base outer g) (XB : KF.In base) (TB : Top p loose mean mg mb base)
    (ex : nsIn KF mainGlobals x = some none) (hv : bootBuiltins x = some (.type T')) (hn' : x ≠ "__name__")
    (hexc : isSubtype (.type T') (.type "BaseException") = pure true) (hnt : isSubtype (.type ((Manifest.find? T').elim "type" fun y => y.metatype)) (.type "tuple") = pure false) (hsub : isSubtype (.type X) (.type T') = pure true)
    (k : ∀ h' g', KtsTurn (outer.filterMap (·.frame)) g g' → Fr g' L h' m → News g' L h' news → Below A₀ base outer g' → KF.In g' → Top p loose mean mg mb g' →
      wpAny (model prog w) ((A₀.deeper (envOf name scope L a cd)).mark (some (.ref e))) (execs (b₀ :: suite) (envOf name scope L a cd)) Q (fun _ _ => False) { s' with heap := h' })
    (hk : scope.kind = .function := by rfl) (hxk : (envOf name scope L a cd).kindOf x = some .globalImplicit := by rfl) (hd : (x == ("__debug__" : Str)) = false := by decide) :
    wpAny (model prog w) (A₀.deeper (envOf name scope L a cd)) (leaving (envOf name scope L a cd) (.ref e))
      (fun _ s₂ => wpAny (model prog w) (A₀.deeper (envOf name scope L a cd)) (handleBy (.ref e) (envOf name scope L a cd) (.ExceptHandler (some (.Name x np)) none (b₀ :: suite) pos :: rest)) Q E s₂) E s' := by
  have K' := K.push (name := name) (a := a) (cd := cd) F hk
  have met : ∀ env ∈ (envOf name scope L a cd :: outer), ∀ b, env.frame = some b → b ∈ L :: outer.filterMap (·.frame) := fun env he b hb => List.mem_filterMap (l := envOf name scope L a cd :: outer).mpr ⟨env, he, hb⟩
  obtain ⟨ob, tp, he, hcls, hdat⟩ := hx.there
  have unmet : (hideAll h (L :: outer.filterMap (·.frame))).get? e = none := Option.eq_none_iff_forall_ne_some.mpr fun o q => by
    have z := of_hideAll _ q
    rw [hx.new] at z
    cases z
  refine wpAny_leaving_firstW (base := hideAll h (L :: outer.filterMap (·.frame))) (a0 := tp) K'.stack ((funFrames_hide K'.frames met).of_keeps fun b o q _ => ⟨o, hx.keeps b o q, rfl⟩) rfl he
    (fun b o q => hx.keeps b o (of_hideAll _ q)) unmet hdat rfl rfl ?_
  rintro h₁ ⟨st, ⟨_, _, fr⟩, tr, up⟩
  rw [hcls] at tr
  have fly : Heap.FlyingW (hideAll h (L :: outer.filterMap (·.frame))) outer e (.type X) tp h₁ := ⟨st, unmet, fr, tr⟩
  have slots : h.UpToSlots h₁ := (Heap.UpToSlots.of_keeps hx.keeps).trans up
  have ground : ∀ h₂ : Heap, (hideAll h (L :: outer.filterMap (·.frame))).StaysIn h₂ → h.UpToSlots h₂ → ∃ g₂, KtsTurn (outer.filterMap (·.frame)) g g₂ ∧ Fr g₂ L h₂ m ∧ Below A₀ base outer g₂ :=
    fun h₂ => kts_ground (name := name) (scope := scope) (a := a) (cd := cd) K F fun b o q nm => hideAll_get _ q nm
  obtain ⟨g₁, T₁, F₁, K₁⟩ := ground h₁ st slots
  refine wpAny_handleBy_builtin (X := X) (T := T') (b := true) hexc hnt hsub (name_B F₁ (XB.keeps K₁.stays) (topRead_of (TB.keeps K₁.stays)) ex hv hn' ⟨rfl, fly.there, ?_⟩ hk hxk hd)
  refine lands_againW fly fun h₂ fly₂ up₂ => ?_
  obtain ⟨g₂, T₂, F₂, K₂⟩ := ground h₂ fly₂.1 (slots.trans up₂)
  have own : ∀ q ∈ news, q.1 ∉ L :: outer.filterMap (·.frame) := fun q hq z => by
    rcases List.mem_cons.mp z with z | z
    · exact (N q hq).2.1 z
    · obtain ⟨o, ho, _⟩ := (K.frames.mem z).2
      exact nomatch (N q hq).2.2.symm.trans ho
  exact wpAny_noRaise (k h₂ g₂ T₂ F₂ (fun q hq => ⟨fly₂.1 _ _ (hideAll_get _ (N q hq).1 (own q hq)), (N q hq).2.1, T₂.none_ _ (N q hq).2.2⟩) K₂ (XB.keeps K₂.stays) (TB.keeps K₂.stays))
end

/-- what a def that may turn the slots of the frames below hands to its caller -/
noncomputable def LeaveT (fs : List Addr) (A₀ : Around) (base : Heap) (outer : List Env) (h₀ : Heap) (L : Addr) (m : Str → Option Value) (g : Heap) (R : Result → Shared → Prop) (v : Value) (s' : Shared) : Prop :=
  ∃ g' L' m' news', KtsTurn fs g g' ∧ Fr g' L' s'.heap m' ∧ News g' L' s'.heap news' ∧
    ∀ h₀', KtsTurn (outer.filterMap (·.frame)) h₀ h₀' → Fr h₀' L s'.heap m → News h₀' L s'.heap news' → Below A₀ base outer h₀' → R (.ok (.ret v)) s'

/-- back in the caller: its ground is turned as the callee's was -/
theorem LeaveT.back {fs : List Addr} {A₀ : Around} {base h₀ g : Heap} {outer : List Env} {L : Addr} {m : Str → Option Value} {R : Result → Shared → Prop} {v : Value} {s' : Shared} (hfs : fs = L :: outer.filterMap (·.frame))
    (B : Below A₀ base outer h₀) (F : Fr h₀ L g m) (l : LeaveT fs A₀ base outer h₀ L m g R v s') : R (.ok (.ret v)) s' := by
  subst hfs
  obtain ⟨g', L', m', news', T, F', N', k⟩ := l
  obtain ⟨h₀', T₀, F₀, B₀⟩ := kts_ground (h₅ := s'.heap) (B := hideAll g (L :: outer.filterMap fun env : Env => env.frame)) (name := "") (scope := default) (a := 0) (cd := .none) B F (fun b o q nm => hideAll_get _ q nm)
    (fun b o q => F'.keep _ _ (T.other b o (of_hideAll _ q) fun z => nomatch (hideAll_none _ z).symm.trans q)) (fun b o q _ => (T.up q).imp fun sl z => F'.keep _ _ z)
  have gone : ∀ p ∈ news', g.get? p.1 = none := fun p hp => turn_unmet T (N' p hp).2.2
  obtain ⟨oL, _, _, eL, _⟩ := F.ns
  exact k h₀' T₀ F₀ (fun p hp => ⟨(N' p hp).1, (fun z => by have e := gone p hp; rw [z, eL] at e; cases e), T₀.none_ _ (kts_none F.keep (gone p hp))⟩) B₀

section
variable {prog : Program} {w : World} {A A₀ : Around} {s : Shared} {K : Frag} {L : Addr} {h₀ base : Heap} {m mg mb : Str → Option Value} {news : List (Addr × Obj)} {p : Program} {loose : List Str} {mean : ExcName → Option Value}
/-- a def entered that may catch: for the contexts under the claim's caller -/
theorem code_defT {env : Env} {outer : List Env} {R : Result → Shared → Prop} {name qual : Str} {params : Arguments} {body : List Stmt} {scope : Scope} {dV kV doc pm cdv ct oc : Value} {an od : Option Addr} {osl : Array (Option Value)} {f : Addr} {args : Args} {binds : List (Str × Value)}
    (B : Below A₀ base outer h₀) (F : Fr h₀ L s.heap m) (XB : K.In base) (N : News h₀ L s.heap news) (TB : Top p loose mean mg mb base) (hA : A.frames = some (env :: outer)) (hf : env.frame = some L) (hke : env.scope.kind = .function)
    (ho : K.lookup f = some ⟨oc, od, .func (fnOf name qual params body scope dV kV doc pm an cdv ct), osl⟩) (hcd : codeIn K cdv qual = true) (hroom : A.depth < recursionLimit)
    (hbind : BindsTo s (fnOf name qual params body scope dV kV doc pm an cdv ct) args binds) (hloc : ∀ y ∈ binds, scope.names.lookup y.1 = some .local)
    (h : ∀ g L' h₁, Fr g L' h₁ (fun y => binds.reverse.lookup y) → News g L' h₁ news → Below A base (env :: outer) g → K.In g → Top p loose mean mg mb g → (∀ p ∈ news, p.1 < L') →
      wpC (model prog w) (A.deeper (envOf qual scope L' f cdv)) (execs body (envOf qual scope L' f cdv))
        (fun fl s' => LeaveT ((env :: outer).filterMap (·.frame)) A₀ base outer h₀ L m g R (match fl with | .ret v => v | _ => .none) s')
        (fun e s' => wpAny (model prog w) (A.deeper (envOf qual scope L' f cdv)) (leaving (envOf qual scope L' f cdv) e) (fun _ s'' => R (.error e) s'') (fun e' s'' => R (.error e') s'') s')
        { s with heap := h₁, toks := s.toks + binds.length })
    (hco : scope.isCoroutine = false) (hgen : scope.isGenerator = false) (hk : scope.kind = .function)
    (hcell : ∀ x ∈ scope.names, x.2 ≠ .cell) : codeC (model prog w) A (.call (.ref f) args) R s := by
  have X₀ := XB.keeps B.stays
  have T₀ := TB.keeps B.stays
  obtain ⟨FG, BG, st, _⟩ := groundX (R := R) B F N hA hf hke
  refine codeC_call_def hroom (X₀.keeps F.keep _ _ ho) rfl (T₀.nolimit.keeps F.keep) (codeRec_of (X₀.keeps F.keep) hcd) rfl hbind hcell hloc (fun h₁ n₁ k₁ => ?_) hco hgen hk
  have below : ∀ p ∈ news, p.1 < s.heap.objs.size := fun p hp => Heap.lt_size (N p hp).1
  have F₁ : Fr (hideAll s.heap (news.map (·.1))) s.heap.objs.size h₁ (fun y => binds.reverse.lookup y) := ⟨n₁, fun b o e => k₁ b o (of_hideAll _ e), Nat.le_of_eq (hideAll_size _ _)⟩
  have N₁ : News (hideAll s.heap (news.map (·.1))) s.heap.objs.size h₁ news := fun p hp => ⟨k₁ _ _ (N p hp).1, Nat.ne_of_lt (below p hp), hideAll_none _ (List.mem_map_of_mem hp)⟩
  exact wpC_mono (h _ _ h₁ F₁ N₁ BG (X₀.keeps st) (T₀.keeps st) below) (fun _ _ l => l.back (by rw [List.filterMap_cons, hf]) B FG) fun _ _ y => y
end
end Mine
end
section
open PySem PySem.W PyProof.Rows PySem.Calls
set_option maxRecDepth 100000
set_option maxHeartbeats 4000000
namespace Mine
open PySem.Sem (wp)

/-- the claim's caller runs its tree to the end, and what is told of the end under the caller holds there -/
theorem caller_halts {prog : Program} {w : World} {t : Sem Fin} {s : Shared} {R : Result → Shared → Prop} (calm : s.asleep)
    (h : wpC (model prog w) callerA t (fun fin s' => ∃ f, fin = .done f ∧ R (.ok f) s' ∧ AllBare s'.gens) (fun e s' => R (.error e) s' ∧ AllBare s'.gens) s) :
    ∃ n res s₂ s₃, schedN (denote table) prog w n (.single s ⟨t, .builtin "claim.caller" {}, default, []⟩) = .halted (outcomeOf res) s₂ ∧ s₂.heap.life = s.heap.life ∧ s₂.heap = s₃.heap ∧ s₂.os = s₃.os ∧ R res s₃ := by
  have atTop : wp (model prog w) ⟨.builtin "claim.caller" {}, none, none, [], none⟩ t (Sem.finPost (model prog w) ⟨.builtin "claim.caller" {}, none, none, [], none⟩ fun r s' => R r s' ∧ leftWithCleanup s'.gens = false)
      (fun e _ s' => R (.error e) s' ∧ leftWithCleanup s'.gens = false) default s := by
    refine Sem.wp_mono _ _ _ ?_ (fun _ _ _ q => ⟨q.1, leftWithCleanup_false_of_bare q.2⟩) _ _ (h _ default caller_in (.inl rfl))
    rintro _ p s' ⟨f, rfl, q, bare⟩
    exact ⟨q, leftWithCleanup_false_of_bare bare⟩
  obtain ⟨n, res, s₃, s₂, sched, run, same, q⟩ := wp_halts_full (M := model prog w) (R := R) calm atTop
  obtain ⟨heaps, _, _, oss, _⟩ := Shared.forget_eq same
  exact ⟨n, res, s₂, s₃, sched, runN_life _ _ _ run, heaps, oss, q⟩

/-- the walk that the head leaves: as the library's, but under the claim's caller alone -/
noncomputable abbrev WalkC (q : Program) (loose : List Str) (XP : (Str → Option Value) → Heap → Prop) (YP : World → Heap → Prop) (r : RowW) (d : DefRec) (kwd : List (Str × Expr)) (run : Value → List Value → Sem Value) : Prop :=
  ∀ (w : World) (s₀ s₁ : Shared) (mg mb : Str → Option Value), Ground q loose r.records XP w s₀ mg mb s₁.heap → YP w s₁.heap →
    ∀ (a : Addr) (o : Obj) (pm cd doc dV kV : Value), s₁.heap.get? a = some o → o.data = .func { docDef d.name d.params d.body d.scope pm cd doc with defaults := dV, kwdefaults := kV } →
    s₁.heap.CodeRec cd d.name → Dflts mg s₁.heap d.params kwd dV kV → mg d.name = some (.ref a) → s₁.gens = #[] →
    ∀ (args : List WData) (vals : List Value) (as : List Addr), r.claim.pre args = true → WData.layableAll args = true →
    ReadsAllW r.records (classAt s₀.heap) s₁.heap vals args as → WellAll w.params s₁.heap vals args → (∀ a ∈ as, (a == sysModules) = false) →
    wpC (model r.prog w) callerA (run (.ref a) vals)
      (fun v => GoodWG r.claim (classAt s₀.heap) (ExcName.means s₀.heap) args s₁ (.ok (.ret v))) (fun e => GoodWG r.claim (classAt s₀.heap) (ExcName.means s₀.heap) args s₁ (.error e)) s₁

/-- the head for a law that is walked under the claim's caller; its premises are those that the library's head gives -/
theorem PySem.W.holds_open {r : OpenRow} {q : Program} {loose : List Str} {Xt : Shared → Bool} {XP : (Str → Option Value) → Heap → Prop} {α : Type} {Yf : Shared → α} {Ya : World → α} {YP : World → Heap → Prop} {d : DefRec} {kwd : List (Str × Expr)} {N : Nat}
    (left : LeftO r.prog q loose Xt Yf Ya N) (hY : ∀ w s, Yf s = Ya w → YP w s.heap) (hYk : ∀ w h h', YP w h → (∀ b o, h.get? b = some o → h'.get? b = some o) → YP w h')
    (hX : ∀ s, Xt s = true → XP (s.heap.nsMap mainGlobals) s.heap) (hXk : ∀ mg h h', XP mg h → (∀ b o, h.get? b = some o → h'.get? b = some o) → XP mg h')
    (hdef : defOf q r.name = some (d, kwd)) (hp : r.prog.theDef r.name = some (d.params, d.body, d.scope)) (hk : kwWritten? d.params.kwonlyargs d.params.kw_defaults = some kwd)
    (hRf : ∀ s, Xt s = true → RecFacts r.records s.heap) (hwr : (!r.writes || r.records.isEmpty) = true) (k1 : r.wellSaid = true)
    (ok : (chainsOk q && opensWell r.prog && (frees r.toRowW && r.within.isEmpty)) = true) (hb : r.prog.bare) (hw : r.toRowW.promised)
    (call : WalkC q loose XP YP r.toRowW d kwd fun f vs => PySem.call f vs) : r.Holds := by
  simp only [Bool.and_eq_true] at ok
  obtain ⟨⟨chains, opens⟩, free, inside⟩ := ok
  obtain ⟨hsame, hu, ha, hap, hm⟩ := frees_parts free
  have after := left.behind (XP := fun mg h => XP mg h ∧ RecFacts r.records h) (fun s e => ⟨hX s e, hRf s e⟩) chains
  refine ⟨k1, hw, ⟨hb, opens, by show List.map _ r.makers = []; rw [hm]; rfl⟩, hw.witness, fun w => ⟨(after w).1, fun s' ran => ?_⟩⟩
  obtain ⟨s₀, fence, noGens, s, top, calm, gens, isNs, both, seen⟩ := (after w).2 s' ran
  have facts := both.X.2
  have bare : Ground q loose [] XP w s (s.heap.nsMap mainGlobals) (s.heap.nsMap builtinsNs) s.heap := { both with X := both.X.1 }
  have gens : s.gens = #[] := by simpa using gens
  refine ⟨s₀, fence, noGens, s, top, fun n hn => ?pin, facts.1, facts.2.1, fun args pre lay ord perm => ?_⟩
  case pin =>
    have : n = r.name := by cases e : r.pinned <;> simp_all
    exact this ▸ pinned_of_view isNs bare hdef hp hk
  have G := facts.ground bare
  -- the arguments, laid
  obtain ⟨⟨vals, s₁⟩, laid⟩ := Option.isSome_iff_exists.mp (layAllW_isSome (P := w.params) (ord := ord) G.has args r.args s (pre_splitW pre).1)
  have old := layAllW_keeps _ _ _ laid
  obtain ⟨g₁, _, os₁, life₁⟩ := layAllW_rest _ _ _ laid
  obtain ⟨as, reads, fresh, there⟩ := reads_layAllW perm _ _ _ laid lay s₁.heap fun _ _ e => e
  have L : Laid r.records w s s₁ args vals as := ⟨⟨ord, perm, laid⟩, reads, fresh, there, old, g₁.trans gens, os₁⟩
  have G₁ := G.keeps hXk old
  obtain ⟨a, o, pm, cd, doc, dV, kV, named, at_, isFn, rec_, dflts⟩ := G₁.fn hdef
  have walked := call w s s₁ _ _ G₁ (hYk _ _ _ (hY w s seen) old) a o pm cd doc dV kV at_ isFn rec_ dflts (defOf_name hdef ▸ named) L.gens args vals as pre lay L.reads L.well (L.low G.low)
  -- what the claim asks of an end
  have asked : ∀ res s'', GoodWG r.toRowW.claim (classAt s.heap) (ExcName.means s.heap) args s₁ res s'' →
      (r.toRowW.claim.Ends s args vals s₁ res s'' ∧ s''.os = s.os ∧ (r.writes = true → namesKept r.prog r.keeps s.heap s''.heap)) ∧ AllBare s''.gens := fun res s'' g => by
    obtain ⟨e1, e2, e3⟩ := g.laid (c := r.toRowW.claim) hsame (List.isEmpty_iff.mp inside) (ident_freeW hu ha hap) L
    exact ⟨⟨e1, e2, fun _ => namesKept_of top isNs _ old g.2.1.old⟩, e3⟩
  obtain ⟨n, res, s₂, s₃, sched, life₂, heaps, oss, ends, os₂, names⟩ := caller_halts (prog := r.prog) (w := w) (s := s₁)
    (t := nsGet mainNs r.name >>= fun x => match x with
      | some f => PySem.call f vals >>= fun v => ret v
      | none => unsupported "claim.caller:no-such-global")
    (R := fun res s'' => r.toRowW.claim.Ends s args vals s₁ res s'' ∧ s''.os = s.os ∧ (r.writes = true → namesKept r.prog r.keeps s.heap s''.heap))
    (Shared.asleep_of_life life₁ calm) (wpC_then (wpAny_nsGet G₁.T.g (by
      rw [named]
      exact wpC_bind (wpC_mono walked (fun v s'' g => wpC_pure ⟨_, rfl, asked _ _ g⟩) fun e s'' g => asked _ _ g))))
  rw [← oss] at os₂
  have ends := ClaimW.Ends.congr heaps ends
  refine ⟨vals, s₁, laid, n, _, s₂, sched, ?_, fun _ i x hx => ?_, fun wr => ⟨heaps ▸ names wr, noTable hwr wr⟩, congrArg Life.seen (life₂.trans life₁), Shared.rest_eq os₂⟩
  · cases ends with
    | inl e => obtain ⟨v, rfl, raised, post, same, kept, ids⟩ := e; exact .inl ⟨v, rfl, raised, post, same, fun b o q _ => kept b o q, ids⟩
    | inr e => obtain ⟨e, ob, c, rfl, at_, means, raised, new, kept⟩ := e; exact .inr ⟨e, ob, c, rfl, at_, means, raised, new, fun b o q _ => kept b o q⟩
  · rw [gens] at hx; exact absurd hx (by simp)
end Mine
end
section
open PySem PySem.W PyProof.Rows
set_option maxRecDepth 100000
set_option maxHeartbeats 8000000
namespace Mine
noncomputable abbrev With (_ : False) (p : Prop) : Prop := p
section
local macro_rules | `(tactic| refine $_) => `(tactic| skip)
theorem topK (h : False) : With h PySem.Challenge.rw_dp0021_01.row.Holds := by
  k_head
  exact h.elim
end
noncomputable abbrev lawName : Str := PySem.Challenge.rw_dp0021_01.row.toRowW.name
noncomputable abbrev WalkL (d : DefRec) (kwd : List (Str × Expr)) : Prop :=
  WalkC topK.view_1 [PySem.Str.ofString "_monthnames", PySem.Str.ofString "_daynames", PySem.Str.ofString "_timezones"] (PySem.W.XL topK.view_1 []) (InK topK.heap_1)
    PySem.Challenge.rw_dp0021_01.row.toRowW d kwd fun f vs => PySem.call f vs
theorem walk_of {d0 : DefRec} {k0 : List (Str × Expr)} (e0 : defOf topK.view_1 lawName = some (d0, k0)) (h : WalkL d0 k0) {d : DefRec} {kwd : List (Str × Expr)} (e : defOf topK.view_1 lawName = some (d, kwd)) : WalkL d kwd := by
  rw [e0] at e
  cases e
  exact h
end Mine
end
section
open PySem PySem.W PyProof.Rows
set_option maxRecDepth 100000
set_option maxHeartbeats 8000000
namespace Mine
noncomputable abbrev loo : List Str := looseW topK.view_1 [Str.ofString "_monthnames", Str.ofString "_daynames", Str.ofString "_timezones"]

/-- what a call of one of the text's defs gives: for every caller -/
noncomputable def Calls (w : World) (f : Addr) (vs : List Value) (news : List (Addr × Obj)) (dn : Nat) (R : Value → List (Addr × Obj) → Prop) : Prop :=
  ∀ (mean : ExcName → Option Value) (mg mb : Str → Option Value) (dp un : Nat) (gd : Option (List Code)) (cn : Str) (cs : Scope) (a : Addr) (ccd : Value) (cl : List (Str × Addr)) (outer : List Env) (A₀ : Around) (base h₀ : Heap) (L : Addr) (m : Str → Option Value) (s : Shared) (Q E : Value → Shared → Prop),
    Below A₀ base outer h₀ → Fr h₀ L s.heap m → (topK.heap_1 w.params).In h₀ → News h₀ L s.heap news → Top topK.view_1 loo mean mg mb h₀ → cs.kind = .function → dp + dn < recursionLimit → un + 8 * dn < cLine →
    (∀ v nw h' tk', Fr h₀ L h' m → News h₀ L h' nw → R v nw → Q v { s with heap := h', toks := tk' }) →
    wpAny (model Challenge.rw_dp0021_01.row.prog w) (ktrTop dp un gd cn cs L a ccd cl outer) (call (.ref f) vs) Q E s

noncomputable def fdOf (w : World) (f : Addr) : FuncData := match (topK.heap_1 w.params).lookup f with | some ⟨_, _, .func fd, _⟩ => fd | _ => default
noncomputable def bodyOf (w : World) (f : Addr) : List Stmt := match (fdOf w f).body with | .stmts b => b | _ => []

/-- the last statements of a def, from the one numbered k on: run from a frame m and a ledger nw they hand back v, the ledger then being nw', with R v nw' -/
noncomputable def Runs (w : World) (f : Addr) (k : Nat) (m : Str → Option Value) (nw : List (Addr × Obj)) (dn : Nat) (R : Value → List (Addr × Obj) → Prop) : Prop :=
  ∀ (mean : ExcName → Option Value) (mg mb : Str → Option Value) (dp un : Nat) (gd : Option (List Code)) (cn : Str) (cs : Scope) (a : Addr) (ccd : Value) (cl : List (Str × Addr)) (outer : List Env) (base g : Heap) (L L' : Addr) (s : Shared) (Q : Flow → Shared → Prop) (E : Value → Shared → Prop),
    Below (ktrTop dp un gd cn cs L a ccd cl outer) base (envX cn cs L a ccd cl :: outer) g → Fr g L' s.heap m → (topK.heap_1 w.params).In g → News g L' s.heap nw → Top topK.view_1 loo mean mg mb g → cs.kind = .function → dp + dn < recursionLimit → un + 8 * dn < cLine →
    (∀ v nw' m' h' tk', Fr g L' h' m' → News g L' h' nw' → R v nw' → Q (.ret v) { s with heap := h', toks := tk' }) →
    wpAny (model Challenge.rw_dp0021_01.row.prog w) ((ktrTop dp un gd cn cs L a ccd cl outer).deeper (envOf (fdOf w f).qualname (fdOf w f).scope L' f (fdOf w f).code)) (execs ((bodyOf w f).drop k) (envOf (fdOf w f).qualname (fdOf w f).scope L' f (fdOf w f).code)) Q E s

theorem Runs.intro {w : World} {f : Addr} {k : Nat} {m : Str → Option Value} {nw : List (Addr × Obj)} {dn : Nat} {R : Value → List (Addr × Obj) → Prop}
    {name qual : Str} {params : Arguments} {body rest : List Stmt} {scope : Scope} {dV kV doc pm cdv ct oc : Value} {an od : Option Addr} {osl : Array (Option Value)}
    (ho : (topK.heap_1 w.params).lookup f = some ⟨oc, od, .func (fnOf name qual params body scope dV kV doc pm an cdv ct), osl⟩) (hb : body.drop k = rest)
    (h : ∀ (mean : ExcName → Option Value) (mg mb : Str → Option Value) (dp un : Nat) (gd : Option (List Code)) (cn : Str) (cs : Scope) (a : Addr) (ccd : Value) (cl : List (Str × Addr)) (outer : List Env) (base g : Heap) (L L' : Addr) (s : Shared) (Q : Flow → Shared → Prop) (E : Value → Shared → Prop),
    Below (ktrTop dp un gd cn cs L a ccd cl outer) base (envX cn cs L a ccd cl :: outer) g → Fr g L' s.heap m → (topK.heap_1 w.params).In g → News g L' s.heap nw → Top topK.view_1 loo mean mg mb g → cs.kind = .function → dp + dn < recursionLimit → un + 8 * dn < cLine →
    (∀ v nw' m' h' tk', Fr g L' h' m' → News g L' h' nw' → R v nw' → Q (.ret v) { s with heap := h', toks := tk' }) →
    wpAny (model Challenge.rw_dp0021_01.row.prog w) ((ktrTop dp un gd cn cs L a ccd cl outer).deeper (envOf qual scope L' f cdv)) (execs rest (envOf qual scope L' f cdv)) Q E s) : Runs w f k m nw dn R := by
  subst hb
  intro mean mg mb dp un gd cn cs a ccd cl outer base g L L' s Q E B F X N T hk hd1 hu hret
  have e : fdOf w f = fnOf name qual params body scope dV kV doc pm an cdv ct := by unfold fdOf; rw [ho]
  have eb : bodyOf w f = body := by unfold bodyOf; rw [e]
  rw [e, eb]
  exact h mean mg mb dp un gd cn cs a ccd cl outer base g L L' s Q E B F X N T hk hd1 hu hret

theorem Runs.elim {w : World} {f : Addr} {k : Nat} {m : Str → Option Value} {nw : List (Addr × Obj)} {dn : Nat} {R : Value → List (Addr × Obj) → Prop} (H : Runs w f k m nw dn R)
    {name qual : Str} {params : Arguments} {body rest : List Stmt} {scope : Scope} {dV kV doc pm cdv ct oc : Value} {an od : Option Addr} {osl : Array (Option Value)}
    {mean : ExcName → Option Value} {mg mb : Str → Option Value} {dp un : Nat} {gd : Option (List Code)} {cn : Str} {cs : Scope} {a : Addr} {ccd : Value} {cl : List (Str × Addr)} {outer : List Env} {base g : Heap} {L L' : Addr} {s : Shared} {Q : Flow → Shared → Prop} {E : Value → Shared → Prop}
    (F : Fr g L' s.heap m) (N : News g L' s.heap nw) 
    (B : Below (ktrTop dp un gd cn cs L a ccd cl outer) base (envX cn cs L a ccd cl :: outer) g) (X : (topK.heap_1 w.params).In g) (T : Top topK.view_1 loo mean mg mb g) (hk : cs.kind = .function) (hd1 : dp + dn < recursionLimit) (hu : un + 8 * dn < cLine)
    (ho : (topK.heap_1 w.params).lookup f = some ⟨oc, od, .func (fnOf name qual params body scope dV kV doc pm an cdv ct), osl⟩) (hb : body.drop k = rest)
    (hret : ∀ v nw' m' h' tk', Fr g L' h' m' → News g L' h' nw' → R v nw' → Q (.ret v) { s with heap := h', toks := tk' }) :
    wpAny (model Challenge.rw_dp0021_01.row.prog w) ((ktrTop dp un gd cn cs L a ccd cl outer).deeper (envOf qual scope L' f cdv)) (execs rest (envOf qual scope L' f cdv)) Q E s := by
  subst hb
  have h := H mean mg mb dp un gd cn cs a ccd cl outer base g L L' s Q E B F X N T hk hd1 hu hret
  have e : fdOf w f = fnOf name qual params body scope dV kV doc pm an cdv ct := by unfold fdOf; rw [ho]
  have eb : bodyOf w f = body := by unfold bodyOf; rw [e]
  rw [e, eb] at h
  exact h
end Mine
namespace Mine
theorem fill (w : World) : Challenge.rw_dp0021_01.row.prog = Challenge.rw_dp0021_01.row.prog ∧ topK.heap_1 w.params = topK.heap_1 w.params := by
  k_fill
  exact ⟨rfl, rfl⟩

noncomputable def Keeps (news nw : List (Addr × Obj)) : Prop := ∀ p ∈ news, p ∈ nw
theorem Keeps.refl (nw : List (Addr × Obj)) : Keeps nw nw := fun _ h => h
theorem Keeps.cons {nw nw' : List (Addr × Obj)} {x : Addr × Obj} (h : Keeps nw nw') : Keeps nw (x :: nw') := fun _ hp => .tail _ (h _ hp)
theorem Keeps.trans {a b c : List (Addr × Obj)} (h : Keeps a b) (h' : Keeps b c) : Keeps a c := fun _ hp => h' _ (h _ hp)

structure PRes where
  yy : Int
  mm : Int
  dd : Int
  hh : Int
  mi : Int
  ss : Int
  tz : Option Int

noncomputable def tzVal : Option Int → Tok → Value
  | none, _ => .none
  | some z, t => .int z t

noncomputable def ParseR (r : Option PRes) (nw0 : List (Addr × Obj)) (v : Value) (nw' : List (Addr × Obj)) : Prop :=
  Keeps nw0 nw' ∧ match r with
  | none => v = .none
  | some r => ∃ D t1 t2 t3 t4 t5 t6 t7 t8 t9 t10, v = .ref D ∧ (D, W.listOf #[.int r.yy t1, .int r.mm t2, .int r.dd t3, .int r.hh t4, .int r.mi t5, .int r.ss t6, .int 0 t7, .int 1 t8, .int (-1) t9, tzVal r.tz t10] 0) ∈ nw' ∧ ∀ p ∈ nw0, p.1 < D

theorem ParseR.mono {r : Option PRes} {a b c : List (Addr × Obj)} {v : Value} (h : Keeps a b) (x : ParseR r b v c) : ParseR r a v c := by
  refine ⟨h.trans x.1, ?_⟩
  cases r with
  | none => exact x.2
  | some r =>
    obtain ⟨D, t1, t2, t3, t4, t5, t6, t7, t8, t9, t10, e, hm, hl⟩ := x.2
    exact ⟨D, t1, t2, t3, t4, t5, t6, t7, t8, t9, t10, e, hm, fun p hp => hl p (h p hp)⟩
end Mine

namespace Mine
open PySem PySem.W PyProof.Rows
/-- as Calls, for the contexts under the claim's caller; the frames below may turn their slots -/
noncomputable def CallsC (w : World) (f : Addr) (vs : List Value) (news : List (Addr × Obj)) (dn : Nat) (R : Value → List (Addr × Obj) → Prop) : Prop :=
  ∀ (mean : ExcName → Option Value) (mg mb : Str → Option Value) (dp un : Nat) (gd : Option (List Code)) (cn : Str) (cs : Scope) (a : Addr) (ccd : Value) (cl : List (Str × Addr)) (outer : List Env) (A₀ : Around) (base h₀ : Heap) (L : Addr) (m : Str → Option Value) (s : Shared) (Q E : Value → Shared → Prop),
    Below A₀ base outer h₀ → Fr h₀ L s.heap m → (topK.heap_1 w.params).In base → News h₀ L s.heap news → Top topK.view_1 loo mean mg mb base → cs.kind = .function → dp + dn < recursionLimit → un + 8 * dn < cLine →
    (∀ v nw h' tk' h₀', KtsTurn (outer.filterMap (·.frame)) h₀ h₀' → Below A₀ base outer h₀' → Fr h₀' L h' m → News h₀' L h' nw → R v nw → Q v { s with heap := h', toks := tk' }) →
    wpC (model Challenge.rw_dp0021_01.row.prog w) (ktrTop dp un gd cn cs L a ccd cl outer) (call (.ref f) vs) Q E s

/-- as Runs, for the contexts under the claim's caller; the frames below may turn their slots -/
noncomputable def RunsC (w : World) (f : Addr) (k : Nat) (m : Str → Option Value) (nw : List (Addr × Obj)) (dn : Nat) (R : Value → List (Addr × Obj) → Prop) : Prop :=
  ∀ (mean : ExcName → Option Value) (mg mb : Str → Option Value) (dp un : Nat) (gd : Option (List Code)) (cn : Str) (cs : Scope) (a : Addr) (ccd : Value) (cl : List (Str × Addr)) (outer : List Env) (base g : Heap) (L L' : Addr) (s : Shared) (Q : Flow → Shared → Prop) (E : Value → Shared → Prop),
    Below (ktrTop dp un gd cn cs L a ccd cl outer) base (envX cn cs L a ccd cl :: outer) g → Fr g L' s.heap m → (topK.heap_1 w.params).In base → News g L' s.heap nw → Top topK.view_1 loo mean mg mb base → cs.kind = .function → dp + dn < recursionLimit → un + 8 * dn < cLine →
    (∀ v nw' m' h' tk' g', KtsTurn ((envX cn cs L a ccd cl :: outer).filterMap (·.frame)) g g' → Fr g' L' h' m' → News g' L' h' nw' → R v nw' → Q (.ret v) { s with heap := h', toks := tk' }) →
    wpC (model Challenge.rw_dp0021_01.row.prog w) ((ktrTop dp un gd cn cs L a ccd cl outer).deeper (envOf (fdOf w f).qualname (fdOf w f).scope L' f (fdOf w f).code)) (execs ((bodyOf w f).drop k) (envOf (fdOf w f).qualname (fdOf w f).scope L' f (fdOf w f).code)) Q E s

theorem Runs.toC {w : World} {f : Addr} {k : Nat} {m : Str → Option Value} {nw : List (Addr × Obj)} {dn : Nat} {R : Value → List (Addr × Obj) → Prop} (H : Runs w f k m nw dn R) : RunsC w f k m nw dn R :=
  fun mean mg mb dp un gd cn cs a ccd cl outer base g L L' s Q E B F X N T hk hd1 hu hret => wpC_of (H mean mg mb dp un gd cn cs a ccd cl outer base g L L' s Q E B F (X.keeps B.stays) N (T.keeps B.stays) hk hd1 hu fun v nw' m' h' tk' F' N' r => hret v nw' m' h' tk' g .refl F' N' r)

theorem Calls.toC {w : World} {f : Addr} {vs : List Value} {nw : List (Addr × Obj)} {dn : Nat} {R : Value → List (Addr × Obj) → Prop} (H : Calls w f vs nw dn R) : CallsC w f vs nw dn R :=
  fun mean mg mb dp un gd cn cs a ccd cl outer A₀ base h₀ L m s Q E B F X N T hk hd1 hu hret => wpC_of (H mean mg mb dp un gd cn cs a ccd cl outer A₀ base h₀ L m s Q E B F (X.keeps B.stays) N (T.keeps B.stays) hk hd1 hu fun v nw' h' tk' F' N' r => hret v nw' h' tk' h₀ .refl B F' N' r)

theorem RunsC.intro {w : World} {f : Addr} {k : Nat} {m : Str → Option Value} {nw : List (Addr × Obj)} {dn : Nat} {R : Value → List (Addr × Obj) → Prop}
    {name qual : Str} {params : Arguments} {body rest : List Stmt} {scope : Scope} {dV kV doc pm cdv ct oc : Value} {an od : Option Addr} {osl : Array (Option Value)}
    (ho : (topK.heap_1 w.params).lookup f = some ⟨oc, od, .func (fnOf name qual params body scope dV kV doc pm an cdv ct), osl⟩) (hb : body.drop k = rest)
    (h : ∀ (mean : ExcName → Option Value) (mg mb : Str → Option Value) (dp un : Nat) (gd : Option (List Code)) (cn : Str) (cs : Scope) (a : Addr) (ccd : Value) (cl : List (Str × Addr)) (outer : List Env) (base g : Heap) (L L' : Addr) (s : Shared) (Q : Flow → Shared → Prop) (E : Value → Shared → Prop),
    Below (ktrTop dp un gd cn cs L a ccd cl outer) base (envX cn cs L a ccd cl :: outer) g → Fr g L' s.heap m → (topK.heap_1 w.params).In base → (topK.heap_1 w.params).In g → News g L' s.heap nw → Top topK.view_1 loo mean mg mb base → Top topK.view_1 loo mean mg mb g → cs.kind = .function → dp + dn < recursionLimit → un + 8 * dn < cLine →
    (∀ v nw' m' h' tk' g', KtsTurn ((envX cn cs L a ccd cl :: outer).filterMap (·.frame)) g g' → Fr g' L' h' m' → News g' L' h' nw' → R v nw' → Q (.ret v) { s with heap := h', toks := tk' }) →
    wpC (model Challenge.rw_dp0021_01.row.prog w) ((ktrTop dp un gd cn cs L a ccd cl outer).deeper (envOf qual scope L' f cdv)) (execs rest (envOf qual scope L' f cdv)) Q E s) : RunsC w f k m nw dn R := by
  subst hb
  intro mean mg mb dp un gd cn cs a ccd cl outer base g L L' s Q E B F X N T hk hd1 hu hret
  have e : fdOf w f = fnOf name qual params body scope dV kV doc pm an cdv ct := by unfold fdOf; rw [ho]
  have eb : bodyOf w f = body := by unfold bodyOf; rw [e]
  rw [e, eb]
  exact h mean mg mb dp un gd cn cs a ccd cl outer base g L L' s Q E B F X (X.keeps B.stays) N T (T.keeps B.stays) hk hd1 hu hret

theorem RunsC.elim {w : World} {f : Addr} {k : Nat} {m : Str → Option Value} {nw : List (Addr × Obj)} {dn : Nat} {R : Value → List (Addr × Obj) → Prop} (H : RunsC w f k m nw dn R)
    {name qual : Str} {params : Arguments} {body rest : List Stmt} {scope : Scope} {dV kV doc pm cdv ct oc : Value} {an od : Option Addr} {osl : Array (Option Value)}
    {mean : ExcName → Option Value} {mg mb : Str → Option Value} {dp un : Nat} {gd : Option (List Code)} {cn : Str} {cs : Scope} {a : Addr} {ccd : Value} {cl : List (Str × Addr)} {outer : List Env} {base g : Heap} {L L' : Addr} {s : Shared} {Q : Flow → Shared → Prop} {E : Value → Shared → Prop}
    (F : Fr g L' s.heap m) (N : News g L' s.heap nw)
    (B : Below (ktrTop dp un gd cn cs L a ccd cl outer) base (envX cn cs L a ccd cl :: outer) g) (X : (topK.heap_1 w.params).In base) (T : Top topK.view_1 loo mean mg mb base) (hk : cs.kind = .function) (hd1 : dp + dn < recursionLimit) (hu : un + 8 * dn < cLine)
    (ho : (topK.heap_1 w.params).lookup f = some ⟨oc, od, .func (fnOf name qual params body scope dV kV doc pm an cdv ct), osl⟩) (hb : body.drop k = rest)
    (hret : ∀ v nw' m' h' tk' g', KtsTurn ((envX cn cs L a ccd cl :: outer).filterMap (·.frame)) g g' → Fr g' L' h' m' → News g' L' h' nw' → R v nw' → Q (.ret v) { s with heap := h', toks := tk' }) :
    wpC (model Challenge.rw_dp0021_01.row.prog w) ((ktrTop dp un gd cn cs L a ccd cl outer).deeper (envOf qual scope L' f cdv)) (execs rest (envOf qual scope L' f cdv)) Q E s := by
  subst hb
  have h := H mean mg mb dp un gd cn cs a ccd cl outer base g L L' s Q E B F X N T hk hd1 hu hret
  have e : fdOf w f = fnOf name qual params body scope dV kV doc pm an cdv ct := by unfold fdOf; rw [ho]
  have eb : bodyOf w f = body := by unfold bodyOf; rw [e]
  rw [e, eb] at h
  exact h

theorem CallsC.of {w : World} {f : Addr} {vs : List Value} {news : List (Addr × Obj)} {dn : Nat} {R : Value → List (Addr × Obj) → Prop} {binds : List (Str × Value)}
    {name qual : Str} {params : Arguments} {body : List Stmt} {scope : Scope} {dV kV doc pm cdv ct oc : Value} {an od : Option Addr} {osl : Array (Option Value)}
    (ho : (topK.heap_1 w.params).lookup f = some ⟨oc, od, .func (fnOf name qual params body scope dV kV doc pm an cdv ct), osl⟩) (hcd : codeIn (topK.heap_1 w.params) cdv qual = true)
    (hbind : ∀ s, BindsTo s (fnOf name qual params body scope dV kV doc pm an cdv ct) ⟨vs, []⟩ binds) (hloc : ∀ y ∈ binds, scope.names.lookup y.1 = some .local)
    (hco : scope.isCoroutine = false) (hgen : scope.isGenerator = false) (hk : scope.kind = .function) (hcell : ∀ x ∈ scope.names, x.2 ≠ .cell)
    (H : RunsC w f 0 (fun y => binds.reverse.lookup y) news dn R) : CallsC w f vs news dn R := by
  intro mean mg mb dp un gd cn cs a ccd cl outer A₀ base h₀ L m s Q E B F X N T hck hd1 hu hret
  refine wpC_call ?_
  refine code_defT (env := envX cn cs L a ccd cl) B F X N T rfl rfl hck ho hcd (show dp < recursionLimit by omega) (hbind s) hloc (fun g L' h₁ F' N' B' X' T' hl => ?_) hco hgen hk hcell
  refine RunsC.elim H (rest := body) F' N' B' X T hck hd1 hu ho rfl ?_
  intro v nw' m' h' tk' g' Tn F'' N'' r
  exact ⟨g', L', m', nw', Tn, F'', N'', fun h₀' T₀ F₃ N₃ B₃ => hret v nw' h' tk' h₀' T₀ B₃ F₃ N₃ r⟩

theorem RunsC.use {w : World} {f : Addr} {k : Nat} {m : Str → Option Value} {nw : List (Addr × Obj)} {dn : Nat} {R : Value → List (Addr × Obj) → Prop}
    {name qual : Str} {params : Arguments} {body rest : List Stmt} {scope : Scope} {dV kV doc pm cdv ct oc : Value} {an od : Option Addr} {osl : Array (Option Value)}
    {mean : ExcName → Option Value} {mg mb : Str → Option Value} {dp un : Nat} {gd : Option (List Code)} {cn : Str} {cs : Scope} {a : Addr} {ccd : Value} {cl : List (Str × Addr)} {outer : List Env} {base g : Heap} {L L' : Addr} {s : Shared} {Q : Flow → Shared → Prop} {E : Value → Shared → Prop}
    (F : Fr g L' s.heap m) (N : News g L' s.heap nw)
    (B : Below (ktrTop dp un gd cn cs L a ccd cl outer) base (envX cn cs L a ccd cl :: outer) g) (X : (topK.heap_1 w.params).In base) (T : Top topK.view_1 loo mean mg mb base) (hk : cs.kind = .function) (hd1 : dp + dn < recursionLimit) (hu : un + 8 * dn < cLine)
    (ho : (topK.heap_1 w.params).lookup f = some ⟨oc, od, .func (fnOf name qual params body scope dV kV doc pm an cdv ct), osl⟩) (hb : body.drop k = rest) (H : RunsC w f k m nw dn R)
    (hret : ∀ v nw' m' h' tk' g', KtsTurn ((envX cn cs L a ccd cl :: outer).filterMap (·.frame)) g g' → Fr g' L' h' m' → News g' L' h' nw' → R v nw' → Q (.ret v) { s with heap := h', toks := tk' }) :
    wpC (model Challenge.rw_dp0021_01.row.prog w) ((ktrTop dp un gd cn cs L a ccd cl outer).deeper (envOf qual scope L' f cdv)) (execs rest (envOf qual scope L' f cdv)) Q E s :=
  RunsC.elim H F N B X T hk hd1 hu ho hb hret
theorem ParseR.congr {r r' : Option PRes} {a c : List (Addr × Obj)} {v : Value} (x : ParseR r a v c) (e : r = r') : ParseR r' a v c := e ▸ x
/-- the walk stops here -/
noncomputable def Hold (P : Prop) : Prop := P
theorem Hold.mk {P : Prop} (h : P) : Hold P := h
theorem Hold.out {P : Prop} (h : Hold P) : P := h
theorem execs_step {M : Model} {A : Around} {E : Value → Shared → Prop} {s : Shared} {env : Env} {st : Stmt} {rest : List Stmt} {Q : Flow → Shared → Prop}
    (h : wpAny M A (exec st env) (fun f s' => Hold (match f with | .next => wpAny M A (execs rest env) Q E s' | f => Q f s')) E s) : wpAny M A (execs (st :: rest) env) Q E s := by
  refine wpAny_execs_cons ?_
  exact h
/-- a statement's end seen from within: its postcondition is a variable -/
theorem execs_consV {M : Model} {A : Around} {E : Value → Shared → Prop} {s : Shared} {env : Env} {st : Stmt} {rest : List Stmt} {Q : Flow → Shared → Prop}
    (h : ∀ Q1 : Flow → Shared → Prop, (∀ s', wpC M A (execs rest env) Q E s' → Q1 .next s') → (∀ v s', Q (.ret v) s' → Q1 (.ret v) s') → wpC M A (exec st env) Q1 E s) : wpC M A (execs (st :: rest) env) Q E s :=
  execs_consC (h _ (fun _ h => h) (fun _ _ h => h))
end Mine
end
section
open PySem PySem.W PyProof.Rows
set_option maxRecDepth 100000
namespace Mine
open PySem.Builtin.Str

/-- every sign is of ASCII -/
noncomputable def Asc (x : Str) : Prop := ∀ c ∈ x.cps.toList, c < 128

theorem asc_slice {x : Str} (h : Asc x) (l u : Option Int) : Asc (Txt.slice x l u) := by
  unfold Txt.slice
  split
  · exact h
  · intro c hc
    simp only [List.mem_filterMap] at hc
    obtain ⟨i, _, hi⟩ := hc
    exact h c (by rw [Array.mem_toList_iff]; exact Array.mem_of_getElem? hi)

theorem asc_sub {x : Str} (h : Asc x) (i j : Nat) : Asc (strSub x i j) := by
  intro c hc
  rw [StrLaws.strSub_toList] at hc
  exact h c (List.mem_of_mem_drop (List.mem_of_mem_take hc))

theorem asc_split {x y : Str} (h : Asc x) : ∀ p ∈ Txt.split x y, Asc p := by
  intro p hp
  unfold Txt.split at hp
  split at hp
  · rw [List.mem_singleton.mp hp]; exact h
  · split at hp
    · rw [List.mem_singleton.mp hp]; exact h
    · unfold partsBetween at hp
      simp only [List.mem_map] at hp
      obtain ⟨⟨i, j⟩, _, rfl⟩ := hp
      exact asc_sub h i j

noncomputable def aUp (c : Nat) : Nat := if 97 ≤ c ∧ c ≤ 122 then c - 32 else c
noncomputable def aLo (c : Nat) : Nat := if 65 ≤ c ∧ c ≤ 90 then c + 32 else c

theorem upperOf_asc : ∀ c, c < 128 → Unicode.upperOf c = [aUp c] := by decide +kernel
theorem lowerOf_asc : ∀ c, c < 128 → Unicode.lowerOf c = [aLo c] := by decide +kernel
theorem aUp_lt : ∀ c, c < 128 → aUp c < 128 := by decide +kernel
theorem aLo_lt : ∀ c, c < 128 → aLo c < 128 := by decide +kernel

theorem flatten_single {f : Nat → Nat → List Nat} {g : Nat → Nat} : ∀ (l : List Nat) (k : Nat), (∀ i c, l[i]? = some c → f (k + i) c = [g c]) →
    ((l.mapIdx fun i c => (f (k + i) c))).flatten = l.map g
  | [], _, _ => rfl
  | c :: r, k, h => by
    rw [List.mapIdx_cons, List.flatten_cons, List.map_cons]
    have h0 := h 0 c rfl
    rw [h0]
    have ih := flatten_single r (k + 1) (f := f) (g := g) fun i c hc => by
      have := h (i + 1) c hc
      rwa [Nat.add_comm i 1, ← Nat.add_assoc] at this
    have e : (fun i c => f (k + (i + 1)) c) = fun i c => f (k + 1 + i) c := by
      funext i c; rw [Nat.add_comm i 1, ← Nat.add_assoc]
    show [g c] ++ _ = _
    rw [e, ih]; rfl

theorem placed_toList (x : Str) (f : Nat → Nat → List Nat) (g : Nat → Nat) (h : ∀ i c, x.cps.toList[i]? = some c → f i c = [g c]) : (placed x f).toList = x.cps.toList.map g := by
  unfold placed
  rw [Array.toList_flatten]
  rw [Array.toList_mapIdx]
  have : (List.map Array.toList (List.mapIdx (fun i c => (f i c).toArray) x.cps.toList)) = List.mapIdx (fun i c => f i c) x.cps.toList := by
    simp [List.mapIdx_eq_zipIdx_map]
  rw [this]
  have e := flatten_single (f := f) (g := g) x.cps.toList 0 (by intro i c hc; rw [Nat.zero_add]; exact h i c hc)
  simpa using e

theorem upper_toList {x : Str} (h : Asc x) : (Txt.upper x).cps.toList = x.cps.toList.map aUp := by
  show (placed x fun _ c => Unicode.upperOf c).toList = _
  exact placed_toList x _ _ fun i c hc => upperOf_asc c (h c (List.mem_of_getElem? hc))

theorem lower_toList {x : Str} (h : Asc x) : (Txt.lower x).cps.toList = x.cps.toList.map aLo := by
  show (placed x fun i _ => Unicode.lowerAt x.cps i).toList = _
  refine placed_toList x _ _ fun i c hc => ?_
  have hlt := h c (List.mem_of_getElem? hc)
  have hc' : x.cps[i]? = some c := by rw [← Array.getElem?_toList]; exact hc
  unfold Unicode.lowerAt
  rw [hc']
  dsimp only
  rw [if_neg]
  · exact lowerOf_asc c hlt
  · simp only [Bool.and_eq_true, beq_iff_eq, not_and]
    intro e; omega

theorem asc_upper {x : Str} (h : Asc x) : Asc (Txt.upper x) := by
  intro c hc
  rw [upper_toList h] at hc
  obtain ⟨d, hd, rfl⟩ := List.mem_map.mp hc
  exact aUp_lt d (h d hd)
theorem asc_lower {x : Str} (h : Asc x) : Asc (Txt.lower x) := by
  intro c hc
  rw [lower_toList h] at hc
  obtain ⟨d, hd, rfl⟩ := List.mem_map.mp hc
  exact aLo_lt d (h d hd)
theorem len_toList (x : Str) : x.length = x.cps.toList.length := Array.length_toList.symm
theorem len_upper {x : Str} (h : Asc x) : (Txt.upper x).length = x.length := by
  rw [len_toList, upper_toList h, List.length_map, len_toList]
theorem len_lower {x : Str} (h : Asc x) : (Txt.lower x).length = x.length := by
  rw [len_toList, lower_toList h, List.length_map, len_toList]

theorem len_split {x y : Str} : ∀ p ∈ Txt.split x y, p.length ≤ x.length := by
  intro p hp
  unfold Txt.split at hp
  split at hp
  · rw [List.mem_singleton.mp hp]; exact Nat.le_refl _
  · split at hp
    · rw [List.mem_singleton.mp hp]; exact Nat.le_refl _
    · unfold partsBetween at hp
      simp only [List.mem_map] at hp
      obtain ⟨⟨i, j⟩, _, rfl⟩ := hp
      rw [len_toList, StrLaws.strSub_toList, List.length_take, List.length_drop, ← len_toList]
      omega


theorem step_lt {p q : Array Nat × Bool} {c : Nat} (h : NumText.step 10 p c = some q) (hp : ∀ d ∈ p.1.toList, d < 10) : ∀ d ∈ q.1.toList, d < 10 := by
  unfold NumText.step at h
  split at h
  · split at h
    · cases h; exact hp
    · cases h
  · split at h
    · rename_i d _
      split at h
      · cases h
        intro e he
        rw [Array.toList_push, List.mem_append] at he
        rcases he with he | he
        · exact hp e he
        · rw [List.mem_singleton.mp he]; assumption
      · cases h
    · cases h

theorem fold_lt : ∀ (cs : List Nat) {p q : Array Nat × Bool}, cs.foldlM (NumText.step 10) p = some q → (∀ d ∈ p.1.toList, d < 10) → ∀ d ∈ q.1.toList, d < 10
  | [], p, q, h, hp => by
    have e : p = q := Option.some.inj h
    subst e; exact hp
  | c :: cs, p, q, h, hp => by
    rw [List.foldlM_cons] at h
    cases hs : NumText.step 10 p c with
    | none => rw [hs] at h; exact absurd h (by simp)
    | some p' =>
      rw [hs] at h
      exact fold_lt cs (show cs.foldlM (NumText.step 10) p' = some q from h) (step_lt hs hp)

theorem digits_lt {cs : List Nat} {ds : Array Nat} (h : NumText.digits? 10 cs = some ds) : ∀ d ∈ ds.toList, d < 10 := by
  unfold NumText.digits? at h
  cases hf : cs.foldlM (NumText.step 10) ((#[] : Array Nat), false) with
  | none => rw [hf] at h; exact absurd h (by simp)
  | some q =>
    rw [hf] at h
    have h2 : (if q.2 = true then some q.1 else none) = some ds := h
    split at h2
    · cases h2; exact fold_lt cs hf (by intro d hd; simp at hd)
    · cases h2
theorem foldl_bound : ∀ (l : List Nat) (a : Nat), (∀ d ∈ l, d < 10) → l.foldl (fun acc d => acc * 10 + d) a < (a + 1) * 10 ^ l.length
  | [], a, _ => by simp
  | d :: r, a, h => by
    have ih := foldl_bound r (a * 10 + d) fun e he => h e (.tail _ he)
    have hd := h d (.head _)
    rw [List.foldl_cons, List.length_cons]
    refine Nat.lt_of_lt_of_le ih ?_
    rw [Nat.pow_succ, Nat.mul_comm (10 ^ r.length) 10, ← Nat.mul_assoc]
    exact Nat.mul_le_mul_right _ (by omega)

theorem intText_bound {x : Str} {i : Int} (h : PySem.intText? x = some i) : i.natAbs < 10 ^ x.length := by
  unfold PySem.intText? at h
  split at h
  · cases hd : NumText.digits? 10 (NumText.core (numSeenOf x)) with
    | none => rw [hd] at h; cases h
    | some ds =>
      rw [hd] at h
      dsimp only at h
      split at h
      · have e := Option.some.inj h
        have hb := foldl_bound ds.toList 0 (digits_lt hd)
        rw [Array.foldl_toList] at hb
        have hsz : ds.size ≤ x.length := Nat.le_trans (NumText.digits_size hd) (Nat.le_trans (NumText.core_length _) (seen_length x))
        have hl : ds.toList.length = ds.size := Array.length_toList
        rw [hl] at hb
        have hp : (10 : Nat) ^ ds.size ≤ 10 ^ x.length := Nat.pow_le_pow_right (by decide) hsz
        rw [← e]
        unfold NumText.worth
        split <;> simp <;> omega
      · cases h
  · cases h
/-- upper and lower for the signs below 128, quick to run -/
noncomputable def qUp (x : Str) : Str := ⟨(x.cps.toList.map aUp).toArray⟩
noncomputable def qLo (x : Str) : Str := ⟨(x.cps.toList.map aLo).toArray⟩
theorem upper_q {x : Str} (h : Asc x) : Txt.upper x = qUp x := Str.ext' (Array.toList_inj.mp (upper_toList h))
theorem lower_q {x : Str} (h : Asc x) : Txt.lower x = qLo x := Str.ext' (Array.toList_inj.mp (lower_toList h))
noncomputable def caseQ (x : Str) (way : Int) : Str := if way = 0 then x else if way = 1 then qUp x else if way = 2 then qLo x else qLo (Txt.slice x none (some 1)) ++ qUp (Txt.slice x (some 1) none)
theorem asc_app {x y : Str} (h : Asc x) (h' : Asc y) : Asc (x ++ y) := fun c hc => by
  rcases List.mem_append.mp (show c ∈ x.cps.toList ++ y.cps.toList from Array.toList_append ▸ hc) with e | e
  · exact h c e
  · exact h' c e
theorem asc_caseQ {x : Str} (h : Asc x) (way : Int) : Asc (caseQ x way) := by
  unfold caseQ
  rw [← upper_q h, ← lower_q h, ← lower_q (asc_slice h _ _), ← upper_q (asc_slice h _ _)]
  split
  · exact h
  split
  · exact asc_upper h
  split
  · exact asc_lower h
  · exact asc_app (asc_lower (asc_slice h _ _)) (asc_upper (asc_slice h _ _))
end Mine
end
section
open PySem PySem.W PyProof.Rows
set_option maxRecDepth 100000
namespace Mine
open PySem.Builtin PySem.Builtin.Str PySem.StrLaws

/-- the signs of a text -/
noncomputable abbrev sg (x : Str) : List Nat := x.cps.toList
theorem sg_ext {a b : Str} (h : sg a = sg b) : a = b := Str.ext' (Array.toList_inj.mp h)
theorem sg_append (a b : Str) : sg (a ++ b) = sg a ++ sg b := by
  show (a.cps ++ b.cps).toList = _
  rw [Array.toList_append]
theorem at_one (x : Str) (c i : Nat) : At x ⟨#[c]⟩ x.length i ↔ (sg x)[i]? = some c := subAt_one x c i

theorem find_none {x : Str} {c : Nat} (h : c ∉ sg x) : Txt.find x ⟨#[c]⟩ = -1 := by
  unfold Txt.find
  rcases occ_head x ⟨#[c]⟩ 1 (Nat.le_refl _) with ⟨e, _⟩ | ⟨i, r, e, ha, _⟩
  · rw [e]
  · exact absurd (List.mem_of_getElem? ((at_one x c i).mp ha)) h
theorem find_some {x : Str} {c : Nat} {a b : List Nat} (e0 : sg x = a ++ c :: b) (h : c ∉ a) : Txt.find x ⟨#[c]⟩ = a.length := by
  unfold Txt.find
  rcases occ_head x ⟨#[c]⟩ 1 (Nat.le_refl _) with ⟨e, hn⟩ | ⟨i, r, e, ha, hn⟩
  · exact absurd ((at_one x c a.length).mpr (by rw [e0]; simp)) (hn _)
  · rw [e]
    have h1 := (at_one x c i).mp ha
    rw [e0] at h1
    have hi : ¬ i < a.length := fun hlt => by
      rw [List.getElem?_append_left hlt] at h1
      exact h (List.mem_of_getElem? h1)
    have hi2 : ¬ a.length < i := fun hlt => hn a.length hlt ((at_one x c a.length).mpr (by rw [e0]; simp))
    have : i = a.length := by omega
    simp [this]
theorem rfind_none {x : Str} {c : Nat} (h : c ∉ sg x) : Txt.rfind x ⟨#[c]⟩ = -1 := by
  unfold Txt.rfind
  rcases last_spec x ⟨#[c]⟩ with ⟨e, _⟩ | ⟨i, e, ha, _⟩
  · rw [e]
  · exact absurd (List.mem_of_getElem? ((at_one x c i).mp ha)) h
theorem rfind_some {x : Str} {c : Nat} {a b : List Nat} (e0 : sg x = a ++ c :: b) (h : c ∉ b) : Txt.rfind x ⟨#[c]⟩ = a.length := by
  unfold Txt.rfind
  rcases last_spec x ⟨#[c]⟩ with ⟨e, hn⟩ | ⟨i, e, ha, hn⟩
  · exact absurd ((at_one x c a.length).mpr (by rw [e0]; simp)) (hn _)
  · rw [e]
    have h1 := (at_one x c i).mp ha
    rw [e0] at h1
    have hi : ¬ a.length < i := fun hlt => by
      rw [List.getElem?_append_right (Nat.le_of_lt hlt)] at h1
      obtain ⟨k, hk⟩ : ∃ k, i - a.length = k + 1 := ⟨i - a.length - 1, by omega⟩
      rw [hk, List.getElem?_cons_succ] at h1
      exact h (List.mem_of_getElem? h1)
    have hi2 : ¬ i < a.length := fun hlt => hn a.length hlt ((at_one x c a.length).mpr (by rw [e0]; simp))
    have : i = a.length := by omega
    simp [this]
theorem contains_one (x : Str) (c : Nat) : Txt.contains x ⟨#[c]⟩ = decide (c ∈ sg x) := found_one x c

theorem cut_unique {c : Nat} : ∀ {a a' b b' : List Nat}, a ++ c :: b = a' ++ c :: b' → c ∉ a → c ∉ a' → a = a' ∧ b = b'
  | [], [], _, _, e, _, _ => ⟨rfl, by simpa using e⟩
  | [], d :: a', _, _, e, _, h => by
    injection e with e1 e2
    exact absurd (e1 ▸ .head _) h
  | d :: a, [], _, _, e, h, _ => by
    injection e with e1 e2
    exact absurd (e1 ▸ .head _) h
  | d :: a, d' :: a', b, b', e, h, h' => by
    injection e with e1 e2
    obtain ⟨r1, r2⟩ := cut_unique e2 (fun m => h (.tail _ m)) (fun m => h' (.tail _ m))
    exact ⟨by rw [e1, r1], r2⟩

theorem sg_join_cons (c : Nat) (x y : Str) (r : List Str) : sg (Str.join ⟨#[c]⟩ (x :: y :: r)) = sg x ++ c :: sg (Str.join ⟨#[c]⟩ (y :: r)) := by
  show sg (x ++ ⟨#[c]⟩ ++ Str.join ⟨#[c]⟩ (y :: r)) = _
  rw [sg_append, sg_append, List.append_assoc]
  rfl

theorem join_unique (c : Nat) : ∀ (p q : List Str), p ≠ [] → q ≠ [] → (∀ x ∈ p, c ∉ sg x) → (∀ x ∈ q, c ∉ sg x) → sg (Str.join ⟨#[c]⟩ p) = sg (Str.join ⟨#[c]⟩ q) → p = q
  | [], _, h, _, _, _, _ => absurd rfl h
  | _, [], _, h, _, _, _ => absurd rfl h
  | [x], [y], _, _, _, _, e => by rw [sg_ext (a := x) (b := y) e]
  | [x], y :: z :: r, _, _, hp, _, e => by
    rw [sg_join_cons] at e
    exact absurd (show c ∈ sg x by rw [show sg x = _ from e]; simp) (hp x (.head _))
  | x :: y :: r, [z], _, _, _, hq, e => by
    rw [sg_join_cons] at e
    exact absurd (show c ∈ sg z by rw [show sg z = _ from e.symm]; simp) (hq z (.head _))
  | x :: y :: r, x' :: y' :: r', _, _, hp, hq, e => by
    rw [sg_join_cons, sg_join_cons] at e
    obtain ⟨e1, e2⟩ := cut_unique e (hp x (.head _)) (hq x' (.head _))
    have := join_unique c (y :: r) (y' :: r') (by simp) (by simp) (fun z hz => hp z (.tail _ hz)) (fun z hz => hq z (.tail _ hz)) e2
    rw [this, sg_ext e1]
theorem split_ne (x y : Str) : Txt.split x y ≠ [] := by
  unfold Txt.split
  split
  · simp
  · split
    · simp
    · rw [partsBetween_eq]
      obtain ⟨p, r, e⟩ := partsFrom_ne x y.length 0 (occurrences x y 0 x.length (x.length + 1))
      rw [e]; simp
theorem split_of {x : Str} {c : Nat} {p : List Str} (hp : p ≠ []) (hf : ∀ y ∈ p, c ∉ sg y) (e : sg x = sg (Str.join ⟨#[c]⟩ p)) : Txt.split x ⟨#[c]⟩ = p := by
  refine join_unique c _ _ (split_ne _ _) hp (split_free x c) hf ?_
  rw [join_split, e]
theorem split_none {x : Str} {c : Nat} (h : c ∉ sg x) : Txt.split x ⟨#[c]⟩ = [x] := split_of (by simp) (by simpa using h) rfl

theorem slice_eq (x : Str) (l u : Option Int) : Txt.slice x l u = sliceText x l u := rfl
theorem slice_last {x : Str} {a : List Nat} {c : Nat} (e : sg x = a ++ [c]) : Txt.slice x none (some (-1)) = ⟨a.toArray⟩ := by
  have hl : x.length = a.length + 1 := by rw [len_toList, show x.cps.toList = _ from e]; simp
  rw [slice_eq, sliceText_to_neg (by decide) (by omega)]
  have : (-1 + (x.length : Int) - 0).toNat = a.length := by omega
  rw [this, List.drop_zero, show x.cps.toList = _ from e]
  simp
theorem slice_from {x : Str} {a b : List Nat} (e : sg x = a ++ b) (k : Int) (hk : k = a.length) : Txt.slice x (some k) none = ⟨b.toArray⟩ := by
  subst hk
  rw [slice_eq, sliceText_from ⟨by omega, by rw [show x.cps.toList = _ from e]; simp; omega⟩]
  rw [show x.cps.toList = _ from e]
  have e2 : (((a ++ b).length : Int) - (a.length : Int)).toNat = b.length := by rw [List.length_append]; omega
  rw [e2]
  simp
theorem item_first {x : Str} {a : List Nat} {c : Nat} (e : sg x = c :: a) : Txt.item x 0 = ⟨#[c]⟩ := by
  unfold Txt.item Txt.charAt
  have : x.cps[(0 : Int).toNat]? = some c := by rw [← Array.getElem?_toList, show x.cps.toList = _ from e]; rfl
  rw [at_nonneg (by decide) this]
  rfl
theorem item_last {x : Str} {a : List Nat} {c : Nat} (e : sg x = a ++ [c]) : Txt.item x (-1) = ⟨#[c]⟩ := by
  have hl : x.length = a.length + 1 := by rw [len_toList, show x.cps.toList = _ from e]; simp
  unfold Txt.item Txt.charAt
  have : x.cps[(-1 + (x.length : Int)).toNat]? = some c := by
    rw [← Array.getElem?_toList, show x.cps.toList = _ from e, hl]
    have : (-1 + ((a.length + 1 : Nat) : Int)).toNat = a.length := by omega
    rw [this]; simp
  rw [at_neg (by decide) (by omega) this]
  rfl
theorem endswith_one {x : Str} {a : List Nat} {c d : Nat} (e : sg x = a ++ [c]) : Txt.endswith x ⟨#[d]⟩ = decide (c = d) := by
  have hl : x.length = a.length + 1 := by rw [len_toList, show x.cps.toList = _ from e]; simp
  unfold Txt.endswith
  have h1 : (⟨#[d]⟩ : Str).length = 1 := rfl
  rw [subAt_eq, h1, hl, show x.cps.toList = _ from e]
  by_cases h : c = d <;> simp [h]
theorem isdigit_one (c : Nat) (h : c < 128) : Txt.isdigit ⟨#[c]⟩ = decide (48 ≤ c ∧ c ≤ 57) := by
  have key : ∀ c, c < 128 → Unicode.isDigit c = decide (48 ≤ c ∧ c ≤ 57) := by decide +kernel
  have : Txt.isdigit ⟨#[c]⟩ = Unicode.isDigit c := by
    unfold Txt.isdigit
    simp [Str.length]
  rw [this, key c h]
end Mine
end
section
open PySem PySem.W PyProof.Rows
set_option maxRecDepth 100000
namespace Mine
open PySem.Builtin PySem.Builtin.Str PySem.StrLaws

/-- the words of a row of signs; the first argument is the word that has begun -/
noncomputable def wl : Option (List Nat) → List Nat → List (List Nat)
  | none, [] => []
  | some w, [] => [w]
  | none, c :: r => if Unicode.isSpace c = true then wl none r else wl (some [c]) r
  | some w, c :: r => if Unicode.isSpace c = true then w :: wl none r else wl (some (w ++ [c])) r

noncomputable def sb (x : Str) (p : Nat × Nat) : List Nat := (sg x).drop p.1 |>.take (p.2 - p.1)

theorem sb_grow {x : Str} {b cur : Nat} {c : Nat} (hb : b ≤ cur) (hc : (sg x)[cur]? = some c) : sb x (b, cur + 1) = sb x (b, cur) ++ [c] := by
  unfold sb
  dsimp only
  have e : cur + 1 - b = (cur - b) + 1 := by omega
  rw [e, List.take_add_one, List.getElem?_drop, show b + (cur - b) = cur by omega, hc]
  rfl

theorem sw_words (x : Str) : ∀ (m cur : Nat) (ws : Array (Nat × Nat)) (start : Option Nat), cur + m = x.length → SwOk x.length cur (none, ws, start) →
    (swEnd x (forIn (List.range' cur m) ((none, ws, start) : SwSt) (swBody x (x.length + 1))).run).map (sb x) = ws.toList.map (sb x) ++ wl (start.map fun b => sb x (b, cur)) ((sg x).drop cur)
  | 0, cur, ws, start, hm, h => by
    have hd : (sg x).drop cur = [] := List.drop_eq_nil_of_le (by rw [← len_toList]; omega)
    rw [hd]
    have hc : cur = x.length := by omega
    subst hc
    cases start with
    | none => simp [wl]; rfl
    | some b => simp only [Option.map]; show (ws.push (b, x.length)).toList.map (sb x) = _; simp [wl]
  | m + 1, cur, ws, start, hm, h => by
    have hlt : cur < (sg x).length := by rw [← len_toList]; omega
    obtain ⟨c, hc⟩ : ∃ c, (sg x)[cur]? = some c := ⟨(sg x)[cur], by simp [hlt]⟩
    have hg : x.cps.getD cur 0 = c := getD_of_getElem? hc
    have hd : (sg x).drop cur = c :: (sg x).drop (cur + 1) := by
      rw [List.drop_eq_getElem_cons hlt]
      congr 1
      rw [List.getElem?_eq_getElem hlt] at hc
      exact Option.some.inj hc
    rw [List.range'_succ, List.forIn_cons]
    have hrun := sw_run x (x.length + 1) (Nat.lt_succ_self _) 1 cur (none, ws, start) (by omega) h
    obtain ⟨h1, h2, h3⟩ := h
    have hsz : ¬ ((ws.size == x.length + 1) = true) := by
      have a := len_le_wsum ws.toList
      have b : ws.toList.length = ws.size := by simp
      have c : wsum ws.toList ≤ cur := by
        cases start with
        | none => exact h3
        | some b => exact Nat.le_trans h3.2 h3.1
      rw [beq_iff_eq]; omega
    rw [show List.range' cur 1 = [cur] from rfl, List.forIn_cons] at hrun
    unfold swBody at hrun ⊢
    simp only [hsz, if_false] at hrun ⊢
    rw [hg] at hrun ⊢
    rw [hd]
    cases start with
    | none =>
      cases hsp : Unicode.isSpace c
      · rw [hsp] at hrun
        refine (sw_words x m (cur + 1) ws (some cur) (by omega) hrun).trans ?_
        simp only [Option.map, wl, hsp]
        congr 2
        rw [sb_grow (Nat.le_refl _) hc]
        simp [sb]
      · rw [hsp] at hrun
        refine (sw_words x m (cur + 1) ws none (by omega) hrun).trans ?_
        simp only [Option.map, wl, hsp, if_true]
    | some b =>
      cases hsp : Unicode.isSpace c
      · rw [hsp] at hrun
        refine (sw_words x m (cur + 1) ws (some b) (by omega) hrun).trans ?_
        simp only [Option.map, wl, hsp]
        congr 2
        rw [sb_grow h3.1 hc]
      · rw [hsp] at hrun
        refine (sw_words x m (cur + 1) (ws.push (b, cur)) none (by omega) hrun).trans ?_
        simp only [Option.map, wl, hsp, if_true]
        simp

theorem words_sg (x : Str) : (Txt.words x).map sg = wl none (sg x) := by
  have key := sw_words x x.length 0 #[] none (by omega) ⟨rfl, by simp, Nat.le_refl _⟩
  rw [← sw_eq] at key
  have k2 : (spaceWords x (x.length + 1)).map (sb x) = wl none (sg x) := by simpa using key
  rw [← k2]
  unfold Txt.words
  split
  · rename_i h
    rw [eq_of_beq h]
    simp [sb]
    rw [List.take_of_length_le (by rw [← len_toList]; exact Nat.le_refl _)]
  · have e : PySem.wordsOf x = (spaceWords x (x.length + 1)).map fun (p : Nat × Nat) => strSub x p.1 p.2 := by
      unfold PySem.wordsOf
      apply List.map_congr_left
      intro ⟨i, j⟩ _
      rfl
    rw [e, List.map_map]
    apply List.map_congr_left
    intro p _
    exact strSub_toList x p.1 p.2

noncomputable def Blank (l : List Nat) : Prop := ∀ c ∈ l, Unicode.isSpace c = true
noncomputable def Solid (l : List Nat) : Prop := l ≠ [] ∧ ∀ c ∈ l, Unicode.isSpace c = false

theorem wl_blank : ∀ (s r : List Nat), Blank s → wl none (s ++ r) = wl none r
  | [], _, _ => rfl
  | c :: s, r, h => by
    rw [List.cons_append, wl, if_pos (h c (.head _))]
    exact wl_blank s r fun d hd => h d (.tail _ hd)
theorem wl_solid : ∀ (a w r : List Nat), (∀ c ∈ a, Unicode.isSpace c = false) → wl (some w) (a ++ r) = wl (some (w ++ a)) r
  | [], w, r, _ => by simp
  | c :: a, w, r, h => by
    rw [List.cons_append, wl, if_neg (by rw [h c (.head _)]; decide), wl_solid a _ r fun d hd => h d (.tail _ hd)]
    simp
theorem wl_word (a r : List Nat) (h : Solid a) : wl none (a ++ r) = wl (some a) r := by
  rcases a with _ | ⟨c, a⟩
  · exact absurd rfl h.1
  · rw [List.cons_append, wl, if_neg (by rw [h.2 c (.head _)]; decide), wl_solid a _ r fun d hd => h.2 d (.tail _ hd)]
    rfl
theorem wl_end (a s r : List Nat) (hs : Blank s) (hn : s ≠ []) : wl (some a) (s ++ r) = a :: wl none r := by
  rcases s with _ | ⟨c, s⟩
  · exact absurd rfl hn
  · rw [List.cons_append, wl, if_pos (hs c (.head _)), wl_blank s r fun d hd => hs d (.tail _ hd)]

theorem sg_join (sep x y : Str) (r : List Str) : sg (Str.join sep (x :: y :: r)) = sg x ++ (sg sep ++ sg (Str.join sep (y :: r))) := by
  show sg (x ++ sep ++ Str.join sep (y :: r)) = _
  rw [sg_append, sg_append, List.append_assoc]

/-- words glued by white signs, with white signs behind them or not -/
theorem wl_join (sep : Str) (hs : Blank (sg sep)) (hn : sg sep ≠ []) (e : List Nat) (he : Blank e) : ∀ ws : List Str, (∀ x ∈ ws, Solid (sg x)) → wl none (sg (Str.join sep ws) ++ e) = ws.map sg
  | [], _ => by
    show wl none ([] ++ e) = []
    have := wl_blank e [] he
    rw [List.append_nil] at this
    simpa [wl] using this
  | [x], h => by
    show wl none (sg x ++ e) = [sg x]
    rw [wl_word _ _ (h x (.head _))]
    rcases e with _ | ⟨c, e⟩
    · rfl
    · have := wl_end (sg x) (c :: e) [] he (by simp)
      rw [List.append_nil] at this
      rw [this]; rfl
  | x :: y :: r, h => by
    rw [sg_join, List.append_assoc, List.append_assoc, wl_word _ _ (h x (.head _)), wl_end _ _ _ hs hn, wl_join sep hs hn e he (y :: r) fun z hz => h z (.tail _ hz)]
    rfl

theorem map_sg_inj : ∀ {a b : List Str}, a.map sg = b.map sg → a = b
  | [], [], _ => rfl
  | [], _ :: _, h => by cases h
  | _ :: _, [], h => by cases h
  | x :: a, y :: b, h => by
    injection h with h1 h2
    rw [sg_ext h1, map_sg_inj h2]

theorem words_join {sep : Str} (hs : Blank (sg sep)) (hn : sg sep ≠ []) {ws : List Str} (h : ∀ x ∈ ws, Solid (sg x)) : Txt.words (Txt.join sep ws) = ws := by
  refine map_sg_inj ?_
  rw [words_sg]
  have e : Txt.join sep ws = Str.join sep ws := glued_eq_join sep ws
  rw [e]
  have := wl_join sep hs hn [] (by intro c hc; cases hc) ws h
  rwa [List.append_nil] at this

theorem join_snoc (sep : Str) (z : Str) : ∀ (x : Str) (ws : List Str), sg (Str.join sep ((x :: ws) ++ [z])) = sg (Str.join sep (x :: ws)) ++ (sg sep ++ sg z)
  | x, [] => by
    show sg (Str.join sep [x, z]) = _
    rw [sg_join]; rfl
  | x, y :: r => by
    rw [List.cons_append, List.cons_append, sg_join, ← List.cons_append, join_snoc sep z y r, sg_join]
    simp

/-- the same with white signs around it all -/
theorem words_join2 {sep z : Str} (hs : Blank (sg sep)) (hn : sg sep ≠ []) (hz : sg z = []) {ws : List Str} (h : ∀ x ∈ ws, Solid (sg x)) : Txt.words (Txt.join sep (z :: (ws ++ [z]))) = ws := by
  refine map_sg_inj ?_
  rw [words_sg]
  have e : Txt.join sep (z :: (ws ++ [z])) = Str.join sep (z :: (ws ++ [z])) := glued_eq_join sep _
  rw [e]
  rcases ws with _ | ⟨x, ws⟩
  · show wl none (sg (Str.join sep [z, z])) = []
    rw [sg_join, hz, List.nil_append, wl_blank _ _ hs]
    show wl none (sg z) = []
    rw [hz]; rfl
  · rw [List.cons_append, sg_join, hz, List.nil_append, wl_blank _ _ hs, ← List.cons_append, join_snoc, hz, List.append_nil]
    exact wl_join sep hs hn (sg sep) hs (x :: ws) h
end Mine
end
section
open PySem PySem.W PyProof.Rows
set_option maxRecDepth 100000
namespace Mine
open PySem.Builtin PySem.Builtin.Str PySem.StrLaws PySem.NumText

/-- signs that can be seen -/
noncomputable def Vis (l : List Nat) : Prop := ∀ c ∈ l, 33 ≤ c ∧ c < 127
theorem Vis.append {a b : List Nat} (h : Vis a) (h' : Vis b) : Vis (a ++ b) := fun c hc => by
  rcases List.mem_append.mp hc with q | q
  · exact h c q
  · exact h' c q
theorem dropW {l : List Nat} (h : Vis l) : l.dropWhile blank = l := by
  cases l with
  | nil => rfl
  | cons c r => rw [List.dropWhile_cons, blank_of (h c (.head _)).1]; rfl
theorem vis_rev {l : List Nat} (h : Vis l) : Vis l.reverse := fun c hc => h c (List.mem_reverse.mp hc)
theorem sign_vis {l : List Nat} (h : Vis l) : Vis (sign l).2 := by
  intro c hc
  apply h
  unfold sign at hc
  split at hc
  · exact .tail _ hc
  · exact .tail _ hc
  · exact hc
theorem core_vis {l : List Nat} (h : Vis l) : core l = (sign l).2 := by
  unfold core
  rw [dropW h]
  show ((sign l).2.reverse.dropWhile blank).reverse = _
  rw [dropW (vis_rev (sign_vis h)), List.reverse_reverse]
theorem seen_vis {x : Str} (h : Vis (sg x)) : numTextOf x = sg x ∧ numSeenOf x = sg x := by
  have e1 : numTextOf x = sg x := by
    refine if_pos ?_
    rw [Array.all_eq_true]
    intro i hi
    have := h x.cps[i] (by rw [Array.mem_toList_iff]; exact Array.getElem_mem hi)
    simp; omega
  refine ⟨e1, ?_⟩
  show (numTextOf x).takeWhile _ = _
  rw [e1]
  refine takeWhile_all fun c hc => ?_
  have := h c hc
  exact bne_iff_ne.mpr (by omega)
theorem int_vis {x : Str} (h : Vis (sg x)) : PySem.intText? x = match digits? 10 (sign (sg x)).2 with
      | some ds => if ds.size ≤ 4300 then some (worth (sign (sg x)).1 ds) else none
      | none => none := by
  obtain ⟨e1, e2⟩ := seen_vis h
  unfold PySem.intText?
  rw [e1, e2, core_vis h, dropW h]
  exact if_pos (beq_self_eq_true _)
theorem step_bad {p : Array Nat × Bool} {c : Nat} (h1 : ¬ (48 ≤ c ∧ c ≤ 57)) (h2 : c ≠ 95) : NumText.step 10 p c = none := by
  unfold NumText.step
  rw [if_neg (by rw [beq_iff_eq]; exact h2)]
  unfold digit?
  rw [if_neg (by simp only [Bool.and_eq_true, decide_eq_true_eq]; exact h1)]
  split
  · rename_i d e
    split at e
    · rename_i q
      simp only [Bool.and_eq_true, decide_eq_true_eq] at q
      have := Option.some.inj e
      rw [if_neg (by omega)]
    · split at e
      · rename_i q
        simp only [Bool.and_eq_true, decide_eq_true_eq] at q
        have := Option.some.inj e
        rw [if_neg (by omega)]
      · cases e
  · rfl
theorem fold_bad {c : Nat} (h1 : ¬ (48 ≤ c ∧ c ≤ 57)) (h2 : c ≠ 95) : ∀ (l : List Nat) (p : Array Nat × Bool), c ∈ l → l.foldlM (NumText.step 10) p = none
  | [], _, h => by cases h
  | d :: l, p, h => by
    rw [List.foldlM_cons]
    rcases List.mem_cons.mp h with rfl | h
    · rw [step_bad h1 h2]; rfl
    · cases e : NumText.step 10 p d with
      | none => rfl
      | some q => exact fold_bad h1 h2 l q h
theorem digits_bad {c : Nat} {l : List Nat} (h1 : ¬ (48 ≤ c ∧ c ≤ 57)) (h2 : c ≠ 95) (h : c ∈ l) : digits? 10 l = none := by
  unfold digits?
  rw [fold_bad h1 h2 l _ h]; rfl
theorem mem_sign {c : Nat} {l : List Nat} (h : c ∈ l) (h1 : c ≠ 43) (h2 : c ≠ 45) : c ∈ (sign l).2 := by
  unfold sign
  split
  · rcases List.mem_cons.mp h with rfl | h
    · exact absurd rfl h2
    · exact h
  · rcases List.mem_cons.mp h with rfl | h
    · exact absurd rfl h1
    · exact h
  · exact h
theorem int_bad {x : Str} {c : Nat} (h : Vis (sg x)) (hc : c ∈ sg x) (h1 : ¬ (48 ≤ c ∧ c ≤ 57)) (h2 : c ≠ 95) (h3 : c ≠ 43) (h4 : c ≠ 45) : PySem.intText? x = none := by
  rw [int_vis h, digits_bad h1 h2 (mem_sign hc h3 h4)]
theorem int_nil {x : Str} (h : sg x = []) : PySem.intText? x = none := by
  rw [int_vis (by rw [h]; intro c hc; cases hc), h]; rfl

/-- a text of digits, one or more -/
structure Dig (x : Str) : Prop where
  all : AllDigits (sg x)
  ne : sg x ≠ []
  len : x.length ≤ 40
theorem Dig.vis {x : Str} (h : Dig x) : Vis (sg x) := fun c hc => by have := h.all c hc; omega
theorem int_dig {x : Str} (h : Dig x) : PySem.intText? x = some ((digitsVal (sg x) : Nat) : Int) := intText_digits h.all h.ne (by have := h.len; omega)
theorem int_plus {x : Str} {cs : List Nat} (hx : sg x = 43 :: cs) (h : AllDigits cs) (h1 : cs ≠ []) (h2 : x.length ≤ 4300) : PySem.intText? x = some ((digitsVal cs : Nat) : Int) := by
  have hv : Vis (sg x) := by
    rw [hx]
    intro c hc
    rcases List.mem_cons.mp hc with rfl | hc
    · decide
    · have := h c hc; omega
  have hl : (sg x).length = x.length := Array.length_toList
  rw [int_vis hv, hx]
  have es : sign (43 :: cs) = (false, cs) := rfl
  rw [es, digits_of h h1]
  have hsz := push_size cs #[]
  have hv := push_foldl cs #[]
  show (if _ ≤ 4300 then some (worth false _) else none) = _
  rw [hx, List.length_cons] at hl
  rw [if_pos (by rw [hsz]; simp only [Array.size_empty]; omega)]
  unfold worth digitsVal
  rw [hv]
  rfl

/-- the digits of a number, with noughts ahead -/
noncomputable def dg (n : Int) : List Nat := (Nat.toDigits 10 n.toNat).map Char.toNat
theorem dg_all (n : Int) : AllDigits (dg n) := by
  intro c hc
  obtain ⟨ch, hch, e⟩ := List.mem_map.mp hc
  have r := digit_range (Nat.isDigit_of_mem_toDigits (by decide) (by decide) hch)
  rw [← e]
  exact r
theorem dg_val {n : Int} (h : 0 ≤ n) : ((digitsVal (dg n) : Nat) : Int) = n := by
  unfold dg
  rw [KIN.val_back]; omega
theorem dg_ne (n : Int) : dg n ≠ [] := by
  intro h
  have := tDigits_len_ge 10 n.toNat
  unfold dg at h
  rw [List.map_eq_nil_iff] at h
  rw [h] at this
  exact absurd this (by decide)
theorem sg_num {n : Int} (h : 0 ≤ n) : sg (Str.ofString (toString n)) = dg n := by
  obtain ⟨m, rfl⟩ := Int.eq_ofNat_of_zero_le h
  exact KIN.signs_num m
theorem dg_len {n : Int} (h : 0 ≤ n) (h2 : n < 100000000000000000000) : (dg n).length ≤ 20 := by
  unfold dg
  rw [List.length_map]
  exact digits10_le (by decide) (by omega)
theorem digitsVal_append (a b : List Nat) : digitsVal (a ++ b) = digitsVal a * 10 ^ b.length + digitsVal b := by
  have key : ∀ (b : List Nat) (k : Nat), b.foldl (fun acc c => acc * 10 + (c - 48)) k = k * 10 ^ b.length + digitsVal b := by
    intro b
    induction b with
    | nil => intro k; simp [digitsVal]
    | cons c r ih =>
      intro k
      have e : digitsVal (c :: r) = (c - 48) * 10 ^ r.length + digitsVal r := by
        unfold digitsVal
        rw [List.foldl_cons, ih (0 * 10 + (c - 48))]
        unfold digitsVal
        simp
      rw [List.foldl_cons, ih, e, List.length_cons, Nat.pow_succ]
      rw [Nat.add_mul, Nat.mul_assoc, Nat.mul_comm (10 ^ r.length) 10]
      omega
  unfold digitsVal
  rw [List.foldl_append, key]
  rfl
theorem val_zeros (z : Nat) (l : List Nat) : digitsVal (List.replicate z 48 ++ l) = digitsVal l := by
  have : digitsVal (List.replicate z 48) = 0 := by
    induction z with
    | zero => rfl
    | succ z ih =>
      rw [List.replicate_succ, show (48 :: List.replicate z 48) = [48] ++ List.replicate z 48 from rfl, digitsVal_append, ih, show digitsVal [48] = 0 from rfl]
      omega
  rw [digitsVal_append, this]; omega
end Mine
end
section
open PySem PySem.W PyProof.Rows PySem.Calls PySem.SeqAt PySem.Spec
namespace Mine
section
variable {prog : Program} {w : World} {A : Around} {E : Value → Shared → Prop} {s : Shared} {l b : Addr} {items : Array Value} {Q : Value → Shared → Prop}
theorem ne_nil (hl : s.heap.IsList l items) (hb : s.heap.IsList b #[]) (hu : A.units < cLine) (h : Q (.bool (decide (items.size ≠ 0))) s) :
    wpAny (model prog w) A (compareOp .NotEq (.ref l) (.ref b)) Q E s := by
  by_cases hz : items.size = 0
  · refine cmp_ofNotEq (RcNeAt.lists (e := fun _ => true) hl hb (by simpa using hz) hu (fun j h1 _ => absurd h1 (by omega)) prog w E Q ?_)
    simpa [hz] using h
  · refine cmp_ofNotEq (RcNeAt.lists_lengths hl hb (by simpa using hz) hu prog w E Q ?_)
    simpa [hz] using h
theorem eq_nil (hl : s.heap.IsList l items) (hb : s.heap.IsList b #[]) (hu : A.units < cLine) (h : Q (.bool (decide (items.size = 0))) s) :
    wpAny (model prog w) A (compareOp .Eq (.ref l) (.ref b)) Q E s := by
  by_cases hz : items.size = 0
  · refine eq_listAt (e := fun _ => true) hl hb (by simpa using hz) hu (fun j h1 _ => absurd h1 (by omega)) ?_
    simpa [hz] using h
  · refine eq_list_lengthsAt hl hb (by simpa using hz) hu ?_
    simpa [hz] using h
end
end Mine
end
section
open PySem PySem.W PyProof.Rows PySem.Calls PySem.Spec
set_option maxRecDepth 100000
namespace Mine
open PyProof.Rows.LCg

/-- no exception leaves -/
noncomputable abbrev No : Value → Shared → Prop := fun _ _ => False

section
variable {prog : Program} {w : World} {A : Around} {E : Value → Shared → Prop} {R : Result → Shared → Prop} {s : Shared}

theorem quiet_of {α : Type} {M : Model} {t : Sem α} {Q : α → Shared → Prop} (h : wpAny M A t Q No s) : wpAny M A t Q E s :=
  wpAny_mono h (fun _ _ q => q) fun _ _ f => False.elim f

/-- one rule for either clause of a comprehension: k values of n have been taken when Inv k holds; tail is what a turn does behind the assignment -/
theorem clause_turns {elt : Expr} {gens : List Comprehension} {scope : Scope} {pos : Pos} {lv : Nat} {it acc : Value} {env : Env} {tgt : Expr} {ipos : Pos} {tail : Sem Fin} {n : Nat} (Inv : Nat → Shared → Prop)
    (turnIs : compTurn (.ListComp elt gens scope pos) lv it acc env = (do
      standAt ipos
      match ← pyNext it with
      | none => pure (.done .next)
      | some v => letOwnedTupleGo tgt it v; assign tgt env v; tail))
    (own : ∀ v, letOwnedTupleGo tgt it v = pure ())
    (item : ∀ k s, k < n → Inv k s → wpAny (model prog w) A (pyNext it)
      (fun r s₁ => ∃ v, r = some v ∧ wpAny (model prog w) A (assign tgt env v) (fun _ s₂ => wpAny (model prog w) A tail (fun fin s₃ => fin = .again (.compLoop (.ListComp elt gens scope pos) lv it acc env) ∧ Inv (k + 1) s₃) No s₂) No s₁) No s)
    (last : ∀ s, Inv n s → wpAny (model prog w) A (pyNext it) (fun r s₁ => r = none ∧ R (.ok .next) s₁) No s)
    (first : Inv 0 s) : codeAny (model prog w) A (.compLoop (.ListComp elt gens scope pos) lv it acc env) R s := by
  refine codeAny_loop rfl (fun left s' => ∃ k, left + k = n ∧ Inv k s') ?_ n ⟨0, rfl, first⟩
  rintro left s' ⟨k, hk, inv⟩
  show wpAny _ _ ((compTurn (.ListComp elt gens scope pos) lv it acc env).onRaise _) _ _ s'
  refine wpAny_noted (quiet_of ?_)
  rw [turnIs]
  refine wpAny_bind (wpAny_standAt (wpAny_bind ?_))
  cases left with
  | zero =>
    have : k = n := by rw [← hk, Nat.zero_add]
    subst this
    refine wpAny_mono (last s' inv) ?_ fun _ _ f => f
    rintro r s₁ ⟨rfl, h⟩
    exact wpAny_pure h
  | succ left =>
    have less : k < n := by rw [← hk, Nat.succ_add]; exact Nat.lt_succ_of_le (Nat.le_add_left _ _)
    refine wpAny_mono (item k s' less inv) ?_ fun _ _ f => f
    rintro r s₁ ⟨v, rfl, h⟩
    dsimp only
    rw [own v]
    refine wpAny_bind (wpAny_pure (wpAny_bind (wpAny_mono h (fun _ s₂ h₂ => wpAny_mono h₂ ?_ fun _ _ f => f) fun _ _ f => f)))
    rintro fin s₃ ⟨rfl, h₃⟩
    exact ⟨rfl, left, Nat.lt_succ_self _, k + 1, by rw [← hk, Nat.succ_add, Nat.add_succ], h₃⟩

/-- [x2 for x in i1 for x2 in i2] -/
noncomputable abbrev flatE (x x2 : Str) (px px2 pe : Pos) (i1 i2 : Expr) (scope : Scope) (pos : Pos) : Expr :=
  .ListComp (.Name x2 pe) [⟨.Name x px, i1, [], 0⟩, ⟨.Name x2 px2, i2, [], 0⟩] scope pos

variable {x x2 : Str} {px px2 pe : Pos} {i1 i2 : Expr} {scope : Scope} {pos : Pos} {it acc : Value} {env : Env}

/-- the inner clause, its iterator made: asked again for its iterator or not, the same loop follows -/
theorem inner_starts (h : codeAny (model prog w) A (.compLoop (flatE x x2 px px2 pe i1 i2 scope pos) 1 it acc env) R s)
    (self : ∀ (Q : Value → Shared → Prop) (E : Value → Shared → Prop), Q it s → wpAny (model prog w) A (pyIter it) Q E s) :
    codeAny (model prog w) A (.compStart (flatE x x2 px px2 pe i1 i2 scope pos) 1 it acc env) R s := by
  have shape : compStart (flatE x x2 px px2 pe i1 i2 scope pos) 1 it acc env = (ask >>= fun st =>
      if st.params.followText "comprehension-iter-twice" = true then again (.compLoop (flatE x x2 px px2 pe i1 i2 scope pos) 1 it acc env)
      else rule "comprehension.iter-twice" >>= fun _ => standAt i2.pos >>= fun _ => pyIter it >>= fun j => again (.compLoop (flatE x x2 px px2 pe i1 i2 scope pos) 1 j acc env)) := by rfl
  refine codeAny_of_tree ?_
  show wpAny _ _ ((compStart (flatE x x2 px px2 pe i1 i2 scope pos) 1 it acc env).onRaise _) _ _ s
  refine wpAny_onRaise (wpAny_mono (E := No) ?_ (fun _ _ q => q) fun _ _ f => False.elim f)
  rw [shape]
  refine wpAny_bind (wpAny_askSetting ?_)
  by_cases c : w.params.followText "comprehension-iter-twice" = true
  · exact (if_pos c).symm ▸ wpAny_pure ⟨rfl, h⟩
  · exact (if_neg c).symm ▸ wpAny_bind (wpAny_rule (wpAny_bind (wpAny_standAt (wpAny_bind (self _ _ (wpAny_pure ⟨rfl, h⟩))))))

end

/-- an address apart from the frame, the ground and the ledger -/
noncomputable def Own (h₀ : Heap) (L : Addr) (news : List (Addr × Obj)) (a : Addr) : Prop := a ≠ L ∧ h₀.get? a = none ∧ ∀ p ∈ news, p.1 ≠ a

section
variable {h₀ h h' : Heap} {L a : Addr} {m : Str → Option Value} {news : List (Addr × Obj)}
theorem Own.step (O : Own h₀ L news a) (k : Heap.ExtBut a h h') (F : Fr h₀ L h m) (N : News h₀ L h news) : Fr h₀ L h' m ∧ News h₀ L h' news :=
  ⟨⟨F.ns.at' fun o => k L o (Ne.symm O.1), fun b o e => k b o (fun z => by rw [z, O.2.1] at e; cases e) (F.keep b o e), F.above⟩,
   fun p hp => ⟨k _ _ (O.2.2 p hp) (N p hp).1, (N p hp).2⟩⟩
theorem Own.next (F : Fr h₀ L h m) (N : News h₀ L h news) : Own h₀ L news h.objs.size := ⟨Ne.symm (Nat.ne_of_lt F.ns.lt), next_is_new F, N.apart⟩
theorem Own.sub {less : List (Addr × Obj)} (O : Own h₀ L news a) (k : ∀ p ∈ less, p ∈ news) : Own h₀ L less a := ⟨O.1, O.2.1, fun p hp => O.2.2 p (k p hp)⟩
theorem Own.more {p : Addr × Obj} (O : Own h₀ L news a) (k : p.1 ≠ a) : Own h₀ L (p :: news) a := ⟨O.1, O.2.1, fun q hq => (List.mem_cons.mp hq).elim (fun z => z ▸ k) (O.2.2 q)⟩
theorem Own.row {o : Obj} (O : Own h₀ L news a) (e : h.get? a = some o) (N : News h₀ L h news) : News h₀ L h ((a, o) :: news) :=
  fun p hp => (List.mem_cons.mp hp).elim (fun z => z ▸ ⟨e, O.1, O.2.1⟩) (N p)
end

/-- what a comprehension over the list at ax has laid: its iterator at I (at place i), its names at C, its list at D (ys so far) -/
structure Tray (h₀ : Heap) (L : Addr) (m : Str → Option Value) (news : List (Addr × Obj)) (I ax C D : Addr) (i : Nat) (mc : Str → Option Value) (ys : List Value) (h : Heap) : Prop where
  fr : Fr h₀ L h m
  nw : News h₀ L h news
  it : h.IsListIter I ax i
  ns : h.Ns C mc
  dl : h.get? D = some (lst ys)

/-- the three stand apart from one another and from all else -/
structure Apart3 (h₀ : Heap) (L : Addr) (news : List (Addr × Obj)) (I C D : Addr) : Prop where
  i : Own h₀ L news I
  c : Own h₀ L news C
  d : Own h₀ L news D
  ic : (@Ne Nat I C)
  id : (@Ne Nat I D)
  cd : (@Ne Nat C D)

section
variable {h₀ h h' : Heap} {L I ax C D : Addr} {m mc mc' : Str → Option Value} {news : List (Addr × Obj)} {i i' : Nat} {ys ys' : List Value}
theorem Tray.taken (T : Tray h₀ L m news I ax C D i mc ys h) (S : Apart3 h₀ L news I C D) (k : Heap.ExtBut I h h') (it : h'.IsListIter I ax i') : Tray h₀ L m news I ax C D i' mc ys h' :=
  ⟨(S.i.step k T.fr T.nw).1, (S.i.step k T.fr T.nw).2, it, T.ns.at' fun o => k C o S.ic.symm, k D _ S.id.symm T.dl⟩
theorem Tray.named (T : Tray h₀ L m news I ax C D i mc ys h) (S : Apart3 h₀ L news I C D) (k : Heap.ExtBut C h h') (ns : h'.Ns C mc') : Tray h₀ L m news I ax C D i mc' ys h' :=
  ⟨(S.c.step k T.fr T.nw).1, (S.c.step k T.fr T.nw).2, T.it.at fun o => k I o S.ic, ns, k D _ S.cd.symm T.dl⟩
theorem Tray.listed (T : Tray h₀ L m news I ax C D i mc ys h) (S : Apart3 h₀ L news I C D) (k : Heap.ExtBut D h h') (dl : h'.get? D = some (lst ys')) : Tray h₀ L m news I ax C D i mc ys' h' :=
  ⟨(S.d.step k T.fr T.nw).1, (S.d.step k T.fr T.nw).2, T.it.at fun o => k I o S.id, T.ns.at' fun o => k C o S.cd, dl⟩
end

/-- what the inner iterable hands over: a list of the ledger, of the values ws -/
noncomputable def Pick (h₀ : Heap) (L : Addr) (m : Str → Option Value) (news : List (Addr × Obj)) (I : Addr) (oI : Obj) (C : Addr) (oC : Obj) (D : Addr) (oD : Obj) (base : Shared) (ws : List Value) (y : Value) (s' : Shared) : Prop :=
  ∃ h tk X n, s' = { base with heap := h, toks := tk } ∧ y = .ref X ∧ (X, ({ cls := .type "list", data := .seq ws.toArray n } : Obj)) ∈ news ∧ Fr h₀ L h m ∧ News h₀ L h ((I, oI) :: (C, oC) :: (D, oD) :: news)
theorem Pick.mk {h₀ : Heap} {L : Addr} {m : Str → Option Value} {news all : List (Addr × Obj)} {I C D X : Addr} {oI oC oD : Obj} {base : Shared} {ws : List Value} {h : Heap} {tk n : Nat}
    (F : Fr h₀ L h m) (N : News h₀ L h all) (sub : ∀ p ∈ (I, oI) :: (C, oC) :: (D, oD) :: news, p ∈ all) (hX : (X, ({ cls := .type "list", data := .seq ws.toArray n } : Obj)) ∈ news) :
    Pick h₀ L m news I oI C oC D oD base ws (.ref X) { base with heap := h, toks := tk } := ⟨h, tk, X, n, rfl, rfl, hX, F, fun p hp => N p (sub p hp)⟩

/-- what «y = [x2 for x in LIST for x2 in i2]» asks of its list: each turn picks the list g v for the value v; y is then the list of all of them -/
noncomputable def FlatOf (prog : Program) (w : World) (A : Around) (h₀ : Heap) (L : Addr) (m : Str → Option Value) (env : Env) (x y : Str) (i2 : Expr) (scope : Scope) (cl : List (Str × Addr)) (Q : Flow → Shared → Prop) (xv : Value) (s₁ : Shared) : Prop :=
  ∃ (ax : Addr) (its : List Value) (k : Nat) (news : List (Addr × Obj)) (g : Value → List Value), xv = .ref ax ∧ A.handled = none ∧ Fr h₀ L s₁.heap m ∧ News h₀ L s₁.heap news ∧
    (ax, ({ cls := .type "list", data := .seq its.toArray k } : Obj)) ∈ news ∧ ((its.map g).flatten).length ≤ sizeLine ∧
    (∀ v, v ∈ its → ∀ ys I oI C oC D mc h tk (E' : Value → Shared → Prop), NsObj oC mc → mc x = some v → Fr h₀ L h m → News h₀ L h ((I, oI) :: (C, oC) :: (D, lst ys) :: news) → Off3 I C D news → ((@Ne Nat I C) ∧ (@Ne Nat I D) ∧ (@Ne Nat C D)) →
      wpAny (model prog w) A (eval i2 (compEnvC scope cl C env)) (Pick h₀ L m news I oI C oC D (lst ys) s₁ (g v)) E' { s₁ with heap := h, toks := tk }) ∧
    (∀ D h tk, Fr h₀ L h (fun z => if z = y then some (.ref D) else m z) → News h₀ L h ((D, lst ((its.map g).flatten)) :: news) → Off1 D news → Q .next { s₁ with heap := h, toks := tk })

theorem FlatOf.mk {prog : Program} {w : World} {A : Around} {h₀ : Heap} {L : Addr} {m : Str → Option Value} {env : Env} {x y : Str} {i2 : Expr} {scope : Scope} {cl : List (Str × Addr)} {Q : Flow → Shared → Prop} {s₁ : Shared} {ax : Addr} {its : List Value} {k : Nat} {news : List (Addr × Obj)} (g : Value → List Value)
    (hh : A.handled = none) (F : Fr h₀ L s₁.heap m) (N : News h₀ L s₁.heap news) (hax : (ax, ({ cls := .type "list", data := .seq its.toArray k } : Obj)) ∈ news) (room : ((its.map g).flatten).length ≤ sizeLine)
    (step : ∀ v, v ∈ its → ∀ ys I oI C oC D mc h tk (E' : Value → Shared → Prop), NsObj oC mc → mc x = some v → Fr h₀ L h m → News h₀ L h ((I, oI) :: (C, oC) :: (D, lst ys) :: news) → Off3 I C D news → ((@Ne Nat I C) ∧ (@Ne Nat I D) ∧ (@Ne Nat C D)) →
      wpAny (model prog w) A (eval i2 (compEnvC scope cl C env)) (Pick h₀ L m news I oI C oC D (lst ys) s₁ (g v)) E' { s₁ with heap := h, toks := tk })
    (fin : ∀ D h tk, Fr h₀ L h (fun z => if z = y then some (.ref D) else m z) → News h₀ L h ((D, lst ((its.map g).flatten)) :: news) → Off1 D news → Q .next { s₁ with heap := h, toks := tk }) :
    FlatOf prog w A h₀ L m env x y i2 scope cl Q (.ref ax) s₁ := ⟨ax, its, k, news, g, rfl, hh, F, N, hax, room, step, fin⟩

theorem take_more (its : List Value) (g : Value → List Value) {k : Nat} (h : k < its.length) : ((its.take (k + 1)).map g).flatten = ((its.take k).map g).flatten ++ g its[k] := by
  rw [List.take_add_one, List.getElem?_eq_getElem h, Option.toList_some, List.map_append, List.flatten_append]
  simp
theorem take_len (its : List Value) (g : Value → List Value) (k q : Nat) (h : k < its.length) : (((its.take k).map g).flatten ++ (g its[k]).take q).length ≤ ((its.map g).flatten).length := by
  conv => rhs; rw [← List.take_append_drop (k + 1) its, List.map_append, List.flatten_append, take_more its g h]
  simp only [List.length_append, List.length_take]
  omega

section
variable {prog : Program} {w : World} {A : Around} {E : Value → Shared → Prop} {R : Result → Shared → Prop} {s₁ : Shared} {h₀ : Heap} {L : Addr} {m : Str → Option Value} {env : Env}
  {x x2 : Str} {px px2 pe : Pos} {i1 i2 : Expr} {scope : Scope} {pos : Pos} {cl : List (Str × Addr)}

theorem place_none {its : List Value} {i : Nat} (h : i = its.length) : its.toArray[i]? = none := by rw [h]; exact Array.getElem?_eq_none (Nat.le_of_eq List.size_toArray)
theorem place_some {its : List Value} {i : Nat} (h : i < its.length) : its.toArray[i]? = some its[i] := by rw [List.getElem?_toArray]; exact List.getElem?_eq_getElem h

/-- the inner clause over the list at X: its values are laid behind ys -/
theorem inner_turns {I J X C D : Addr} {k : Nat} {ws ys : List Value} {news : List (Addr × Obj)} (hh : A.handled = none) (hkind : scope.kind = .function) (hx2 : scope.names.lookup x2 = some .local) (hd2 : (x2 == ("__debug__" : Str)) = false)
    (S : Apart3 h₀ L news J C D) (hX : (X, ({ cls := .type "list", data := .seq ws.toArray k } : Obj)) ∈ news) (room : ∀ q, (ys ++ ws.take q).length ≤ sizeLine)
    (fin : ∀ h tk mc, Fr h₀ L h m → News h₀ L h news → h.Ns C mc → h.get? D = some (lst (ys ++ ws)) → R (.ok .next) { s₁ with heap := h, toks := tk })
    {h : Heap} {tk : Nat} {mc : Str → Option Value} (T : Tray h₀ L m news J X C D 0 mc ys h) :
    codeAny (model prog w) A (.compLoop (flatE x x2 px px2 pe i1 i2 scope pos) 1 (.ref J) (.ref D) (compEnvC scope cl C env)) R { s₁ with heap := h, toks := tk } := by
  refine clause_turns (n := ws.length) (ipos := i2.pos) (tail := (eval (.Name x2 pe) (compEnvC scope cl C env) >>= fun v => call (.builtin "list.append") [.ref D, v] >>= fun _ => pure ()) >>= fun _ => again (.compLoop (flatE x x2 px px2 pe i1 i2 scope pos) 1 (.ref J) (.ref D) (compEnvC scope cl C env)))
    (fun q s' => ∃ h tk mc, s' = { s₁ with heap := h, toks := tk } ∧ Tray h₀ L m news J X C D q mc (ys ++ ws.take q) h) rfl (fun _ => rfl) ?_ ?_ ⟨h, tk, mc, rfl, by rw [List.take_zero, List.append_nil]; exact T⟩
  · rintro q s' hq ⟨h, tk, mc, rfl, T⟩
    refine wpAny_pyNext_list_item T.it ⟨_, (T.nw _ hX).1, rfl, _, rfl⟩ (place_some hq) fun h1 it1 b1 => ⟨_, rfl, ?_⟩
    have T1 := T.taken S b1.extBut it1
    refine wpAny_assign_Name (wpAny_storeName_local (lookup_relabel_local hx2) T1.ns (fun h2 n2 b2 => ?_) (by simp [compEnvC, relabel, hkind]))
    have T2 := T1.named S b2.extBut n2
    refine wpAny_bind (wpAny_bind (wpAny_Name (wpAny_loadName_local (by simp [compEnvC, relabel, hkind]) (lookup_relabel_local hx2) T2.ns (v := ws[q]) (if_pos rfl) (wpAny_bind (append_at T2.dl (fun h3 b3 d3 => ?_) ?_))) hd2))
    · refine wpAny_pure (wpAny_pure ⟨rfl, h3, _, _, rfl, T2.listed S b3.extBut ?_⟩)
      rw [d3, List.take_add_one, List.getElem?_eq_getElem hq, ← List.append_assoc]
      exact congrArg some (lst_snoc _ _)
    · exact Nat.le_trans (Nat.le_of_eq List.size_toArray) (room q)
  · rintro s' ⟨h, tk, mc, rfl, T⟩
    refine wpAny_pyNext_list_end hh T.it ⟨_, (T.nw _ hX).1, rfl, _, rfl⟩ (place_none rfl) fun h1 b1 => ⟨rfl, ?_⟩
    have z := S.i.step b1 T.fr T.nw
    refine fin h1 tk mc z.1 z.2 (T.ns.at' fun o => b1 C o S.ic.symm) ((b1 D _ S.id.symm T.dl).trans ?_)
    rw [List.take_length]

theorem Own.off3 {news : List (Addr × Obj)} {I C D : Addr} (S : Apart3 h₀ L news I C D) : Off3 I C D news := Off3.of fun p hp => ⟨S.i.2.2 p hp, S.c.2.2 p hp, S.d.2.2 p hp⟩

/-- the outer clause over the list at ax -/
theorem outer_turns {I ax C D : Addr} {k : Nat} {its : List Value} {g : Value → List Value} {news : List (Addr × Obj)} (hh : A.handled = none) (hkind : scope.kind = .function) (hx : scope.names.lookup x = some .local) (hx2 : scope.names.lookup x2 = some .local)
    (hd2 : (x2 == ("__debug__" : Str)) = false) (hs2 : ∀ C z, foldedSetIterable i2 (compEnvC scope cl C env) z = pure z)
    (S : Apart3 h₀ L news I C D) (hax : (ax, ({ cls := .type "list", data := .seq its.toArray k } : Obj)) ∈ news) (room : ((its.map g).flatten).length ≤ sizeLine)
    (step : ∀ v, v ∈ its → ∀ ys I oI C oC D mc h tk (E' : Value → Shared → Prop), NsObj oC mc → mc x = some v → Fr h₀ L h m → News h₀ L h ((I, oI) :: (C, oC) :: (D, lst ys) :: news) → Off3 I C D news → ((@Ne Nat I C) ∧ (@Ne Nat I D) ∧ (@Ne Nat C D)) →
      wpAny (model prog w) A (eval i2 (compEnvC scope cl C env)) (Pick h₀ L m news I oI C oC D (lst ys) s₁ (g v)) E' { s₁ with heap := h, toks := tk })
    (fin : ∀ h tk mc, Fr h₀ L h m → News h₀ L h news → h.Ns C mc → h.get? D = some (lst ((its.map g).flatten)) → R (.ok .next) { s₁ with heap := h, toks := tk })
    {h : Heap} {tk : Nat} {mc : Str → Option Value} (T : Tray h₀ L m news I ax C D 0 mc [] h) :
    codeAny (model prog w) A (.compLoop (flatE x x2 px px2 pe i1 i2 scope pos) 0 (.ref I) (.ref D) (compEnvC scope cl C env)) R { s₁ with heap := h, toks := tk } := by
  refine clause_turns (n := its.length) (ipos := i1.pos) (tail := eval i2 (compEnvC scope cl C env) >>= fun z => standAt i2.pos >>= fun _ => foldedSetIterable i2 (compEnvC scope cl C env) z >>= fun z => holding [z] (pyIter z) >>= fun j =>
      runOwn (.compStart (flatE x x2 px px2 pe i1 i2 scope pos) 1 j (.ref D) (compEnvC scope cl C env)) (compEnvC scope cl C env) >>= fun _ => again (.compLoop (flatE x x2 px px2 pe i1 i2 scope pos) 0 (.ref I) (.ref D) (compEnvC scope cl C env)))
    (fun q s' => ∃ h tk mc, s' = { s₁ with heap := h, toks := tk } ∧ Tray h₀ L m news I ax C D q mc (((its.take q).map g).flatten) h) rfl (fun _ => rfl) ?_ ?_ ⟨h, tk, mc, rfl, T⟩
  · rintro q s' hq ⟨h, tk, mc, rfl, T⟩
    refine wpAny_pyNext_list_item T.it ⟨_, (T.nw _ hax).1, rfl, _, rfl⟩ (place_some hq) fun h1 it1 b1 => ⟨_, rfl, ?_⟩
    have T1 := T.taken S b1.extBut it1
    refine wpAny_assign_Name (wpAny_storeName_local (lookup_relabel_local hx) T1.ns (fun h2 n2 b2 => ?_) (by simp [compEnvC, relabel, hkind]))
    have T2 := T1.named S b2.extBut n2
    obtain ⟨oI, eI, rI⟩ := T2.it
    obtain ⟨oC, eC, rC⟩ := ns_obj T2.ns
    have c3 : Own h₀ L ((D, lst (((its.take q).map g).flatten)) :: news) C := S.c.more S.cd.symm
    have i3 : Own h₀ L ((C, oC) :: (D, lst (((its.take q).map g).flatten)) :: news) I := (S.i.more S.id.symm).more S.ic.symm
    refine wpAny_bind (wpAny_mono (step _ (List.getElem_mem hq) _ I oI C oC D _ h2 _ No rC (if_pos rfl) T2.fr (i3.row eI (c3.row eC (S.d.row T2.dl T2.nw))) (Own.off3 S) ⟨S.ic, S.id, S.cd⟩) ?_ fun _ _ f => f)
    rintro z s' ⟨h3, tk3, X, n3, rfl, rfl, hX, F3, N3⟩
    have eD3 := (N3 _ (.tail _ (.tail _ (.head _)))).1
    have eC3 := rC.ns (N3 _ (.tail _ (.head _))).1
    have NI3 : News h₀ L h3 ((I, oI) :: news) := fun p hp => N3 p ((List.mem_cons.mp hp).elim (fun z => z ▸ .head _) fun z => .tail _ (.tail _ (.tail _ z)))
    have O := Own.next F3 N3
    refine wpAny_bind (wpAny_standAt ?_)
    rw [hs2]
    refine wpAny_bind (wpAny_pure (wpAny_bind (wpAny_holding (wpAny_pyIter_list ⟨_, (NI3 _ (.tail _ hX)).1, rfl, _, rfl⟩ ?_))))
    have up : ∀ b o, h3.get? b = some o → (h3.push { cls := .type "list_iterator", data := .fields #[.ref X, .int 0 0] }).get? b = some o := fun b o e => Heap.get?_push_of_some _ e
    have itJ : (h3.push { cls := .type "list_iterator", data := .fields #[.ref X, .int 0 0] }).IsListIter h3.objs.size X 0 := ⟨_, Heap.get?_push_size _ rfl, rfl, rfl⟩
    have SJ : Apart3 h₀ L ((I, oI) :: news) h3.objs.size C D :=
      ⟨O.sub fun p hp => (List.mem_cons.mp hp).elim (fun z => z ▸ .head _) fun z => .tail _ (.tail _ (.tail _ z)), S.c.more S.ic, S.d.more S.id,
        Ne.symm (O.2.2 _ (.tail _ (.head _))), Ne.symm (O.2.2 _ (.tail _ (.tail _ (.head _)))), S.cd⟩
    have inner := inner_turns (I := I) (prog := prog) (w := w) (A := A) (s₁ := s₁) (cl := cl) (env := env) (x := x) (px := px) (px2 := px2) (pe := pe) (i1 := i1) (i2 := i2) (pos := pos) (tk := tk3)
      (R := fun r s₅ => match r with
        | .ok _ => ∃ h tk mc, s₅ = { s₁ with heap := h, toks := tk } ∧ Tray h₀ L m news I ax C D (q + 1) mc (((its.take (q + 1)).map g).flatten) h
        | .error e => cameBackBy (model prog w) A (compEnvC scope cl C env) No e s₅)
      hh hkind hx2 hd2 SJ (.tail _ hX) (fun p => Nat.le_trans (take_len its g q p hq) room)
      (fun h tk mc F N nsC eD => ⟨h, tk, mc, rfl, F, fun p hp => N p (.tail _ hp), ⟨oI, (N _ (.head _)).1, rI⟩, nsC, eD.trans (by rw [take_more its g hq])⟩)
      ⟨F3.keeps up, NI3.grown up, itJ, eC3.at' fun o => up C o, up _ _ eD3⟩
    refine wpAny_bind (wpAny_mono (wpAny_runOwn (h := none) (inner_starts inner fun Q E hQ => wpAny_pyIter_listiter itJ hQ)) (fun _ _ hq => wpAny_pure ⟨rfl, hq⟩) fun _ _ f => f)
  · rintro s' ⟨h, tk, mc, rfl, T⟩
    refine wpAny_pyNext_list_end hh T.it ⟨_, (T.nw _ hax).1, rfl, _, rfl⟩ (place_none rfl) fun h1 b1 => ⟨rfl, ?_⟩
    have z := S.i.step b1 T.fr T.nw
    refine fin h1 tk mc z.1 z.2 (T.ns.at' fun o => b1 C o S.ic.symm) ((b1 D _ S.id.symm T.dl).trans ?_)
    rw [List.take_length]
end

section
variable {prog : Program} {w : World} {A : Around} {E : Value → Shared → Prop} {s : Shared} {h₀ : Heap} {m : Str → Option Value} {env : Env}
/-- the comprehension's own code, its three objects laid, to the end of the assignment -/
theorem flat_code {i1 i2 : Expr} {x x2 y : Str} {px px2 pe py : Pos} {scope : Scope} {cl : List (Str × Addr)} {pos : Pos} {Q : Flow → Shared → Prop} {s₁ : Shared} {I D C : Addr} {oI : Obj} {mc : Str → Option Value}
    {ax : Addr} {its : List Value} {k : Nat} {news : List (Addr × Obj)} {g : Value → List Value} {h2 h3 : Heap} {tk : Nat}
    (hkind : scope.kind = .function) (hx : scope.names.lookup x = some .local) (hx2 : scope.names.lookup x2 = some .local) (hd2 : (x2 == ("__debug__" : Str)) = false)
    (hs2 : ∀ C z, foldedSetIterable i2 (compEnvC scope cl C env) z = pure z)
    (hy : env.kindOf y = some .local) (hp : (env.scope.kind == .class || (env.scope.kind == .module && env.locals != env.globals)) = false) (hh : A.handled = none)
    (F2 : Fr h₀ env.locals h2 m) (N2 : News h₀ env.locals h2 ((D, lst []) :: (I, oI) :: news)) (hI : oI.cls = .type "list_iterator" ∧ oI.data = .fields #[.ref ax, .int 0 0])
    (o1 : ∀ p ∈ news, p.1 ≠ I) (o2 : ∀ p ∈ (I, oI) :: news, p.1 ≠ D) (O : Own h₀ env.locals ((D, lst []) :: (I, oI) :: news) C) (b3 : Heap.ExtBut C h2 h3) (n3 : h3.Ns C mc)
    (hax : (ax, ({ cls := .type "list", data := .seq its.toArray k } : Obj)) ∈ news) (room : ((its.map g).flatten).length ≤ sizeLine)
    (step : ∀ v, v ∈ its → ∀ ys I oI C oC D mc h tk (E' : Value → Shared → Prop), NsObj oC mc → mc x = some v → Fr h₀ env.locals h m → News h₀ env.locals h ((I, oI) :: (C, oC) :: (D, lst ys) :: news) → Off3 I C D news → ((@Ne Nat I C) ∧ (@Ne Nat I D) ∧ (@Ne Nat C D)) →
      wpAny (model prog w) A (eval i2 (compEnvC scope cl C env)) (Pick h₀ env.locals m news I oI C oC D (lst ys) s₁ (g v)) E' { s₁ with heap := h, toks := tk })
    (fin : ∀ D h tk, Fr h₀ env.locals h (fun z => if z = y then some (.ref D) else m z) → News h₀ env.locals h ((D, lst ((its.map g).flatten)) :: news) → Off1 D news → Q .next { s₁ with heap := h, toks := tk }) :
    codeAny (model prog w) A (.compStart (flatE x x2 px px2 pe i1 i2 scope pos) 0 (.ref I) (.ref D) (compEnvC scope cl C env))
      (compPost (model prog w) A E (some (assign (.Name y py) env)) (fun _ s' => Q .next s') (.ref D) C) { s₁ with heap := h3, toks := tk } := by
  have z := O.step b3 F2 N2
  have S : Apart3 h₀ env.locals news I C D :=
    ⟨⟨(N2 _ (.tail _ (.head _))).2.1, (N2 _ (.tail _ (.head _))).2.2, o1⟩, O.sub fun p hp => .tail _ (.tail _ hp), ⟨(N2 _ (.head _)).2.1, (N2 _ (.head _)).2.2, fun p hp => o2 p (.tail _ hp)⟩,
      O.2.2 _ (.tail _ (.head _)), o2 _ (.head _), Ne.symm (O.2.2 _ (.head _))⟩
  have T : Tray h₀ env.locals m news I ax C D 0 mc [] h3 := ⟨z.1, fun p hp => z.2 p (.tail _ (.tail _ hp)), ⟨oI, (z.2 _ (.tail _ (.head _))).1, hI⟩, n3, (z.2 _ (.head _)).1⟩
  have loop := outer_turns (prog := prog) (w := w) (s₁ := s₁) (x := x) (x2 := x2) (px := px) (px2 := px2) (pe := pe) (i1 := i1) (pos := pos) (tk := tk) (R := compPost (model prog w) A E (some (assign (.Name y py) env)) (fun _ s' => Q .next s') (.ref D) C) hh hkind hx hx2 hd2 hs2 S hax room step (fun h tk mc F N ns eD => by
    show wpAny _ A (assign (.Name y py) env (.ref D)) _ _ _
    refine wpAny_assign_Name (wpAny_storeName_local hy F.ns (fun h' n' b' => ?_) hp)
    have N' := (S.d.row eD N).set b'
    refine ⟨mc, ns.sameBut b' S.c.1, fun h'' b'' => ?_⟩
    have y := (S.c.more S.cd.symm).step b''.extBut (F.set n' b') N'
    exact fin D h'' _ y.1 y.2 (Own.off3 S).one) T
  exact codeAny_compStart_list loop (wpAny_pyIter_listiter T.it loop)

/-- y = [x2 for x in LIST for x2 in i2] -/
theorem Assign_flat {i1 i2 : Expr} {x x2 y : Str} {px px2 pe py : Pos} {scope : Scope} {cl : List (Str × Addr)} {pos spos : Pos} {Q : Flow → Shared → Prop} {L : Addr} (_F : Fr h₀ L s.heap m) (hL : env.locals = L)
    (hsw : swapsWith (flatE x x2 px px2 pe i1 i2 scope pos) (some (.Name y py)) spos.line env = pure true)
    (hclos : closureFor scope env = pure cl) (hcell : ∀ z ∈ scope.names, z.2 ≠ .cell) (hkind : scope.kind = .function)
    (hnames : ∀ z ∈ scope.names, z.2 = .local → scope.names.lookup z.1 = some .local) (hx : scope.names.lookup x = some .local) (hx2 : scope.names.lookup x2 = some .local) (hd2 : (x2 == ("__debug__" : Str)) = false)
    (hs2 : ∀ C z, foldedSetIterable i2 (compEnvC scope cl C env) z = pure z)
    (hy : env.kindOf y = some .local) (hp : (env.scope.kind == .class || (env.scope.kind == .module && env.locals != env.globals)) = false)
    (h : wpAny (model prog w) A (eval i1 env) (FlatOf prog w A h₀ L m env x y i2 scope cl Q) E s)
    (hs : ∀ x, foldedSetIterable i1 env x = pure x := by intro _; rfl) :
    wpAny (model prog w) A (exec (.Assign [.Name y py] (flatE x x2 px px2 pe i1 i2 scope pos) spos) env) Q E s := by
  subst hL
  have shape : evalThenUse (flatE x x2 px px2 pe i1 i2 scope pos) env (assign (.Name y py) env)
      = comprehension (flatE x x2 px px2 pe i1 i2 scope pos) scope env (firstIterPos [⟨.Name x px, i1, [], 0⟩, ⟨.Name x2 px2, i2, [], 0⟩] pos) (newList []) false (eval i1 env) (some (assign (.Name y py) env)) >>= fun _ => pure () := by rfl
  rw [exec_Assign_Name_used _ _ _ _ hsw, shape]
  refine wpAny_bind (wpAny_standAt (wpAny_bind (wpAny_bind (wpAny_mono (wpAny_comprehension_free (Q := fun _ s' => Q .next s') rfl hs hclos hkind hnames (wpAny_mono h ?_ fun _ _ e => e)) (fun _ _ q => wpAny_pure (wpAny_pure q)) fun _ _ e => e))))
  rintro xv s₁ ⟨ax, its, k, news, g, rfl, hh, F, N, hax, room, step, fin⟩
  refine wpAny_pyIter_list ⟨_, (N _ hax).1, rfl, _, rfl⟩ (wpAny_newObj_type (wpAny_newFunctionEnv hcell (fun y hy => nomatch hy) (fun h3 n3 b3 => ?_) hkind))
  have F1 := F.push { cls := .type "list_iterator", data := .fields #[.ref ax, .int 0 0] }
  have N1 := N.push F { cls := .type "list_iterator", data := .fields #[.ref ax, .int 0 0] }
  have F2 := F1.push (lst [])
  have N2 := N1.push F1 (lst [])
  exact flat_code hkind hx hx2 hd2 hs2 hy hp hh F2 N2 ⟨rfl, rfl⟩ N.apart N1.apart (Own.next F2 N2) (fun b o e k => b3.extBut b o e (Heap.get?_push_of_some _ k)) n3 hax room step fin
end
end Mine
end
section
open PySem PySem.W PyProof.Rows PySem.Calls PySem.Spec
set_option maxRecDepth 100000
namespace Mine
open PyProof.Rows.LCg PyProof.Rows.LCt
section
variable {prog : Program} {w : World} {A : Around} {s : Shared} {h₀ : Heap} {L : Addr} {m : Str → Option Value} {env : Env}
theorem CompEnd.mono {I C D : Addr} {s₁ s₂ : Shared} {oI oC oD : Obj} {S : List (Addr × Obj) → Prop} {r r' : Value → List (Addr × Obj) → Prop} {y : Value} (H : ∀ n, r y n → r' y n) (h : CompEnd h₀ L m s₁ I oI C oC D oD S r y s₂) : CompEnd h₀ L m s₁ I oI C oC D oD S r' y s₂ := by
  obtain ⟨h', tk, n', e, F, N, off, hS, z⟩ := h
  exact ⟨h', tk, n', e, F, N, off, hS, H _ z⟩
theorem filt_ind {x : Str} {ct elt : Expr} {scope : Scope} {cl : List (Str × Addr)} {S : List (Addr × Obj) → Prop} {Fin : List Value → List (Addr × Obj) → Prop} {news : List (Addr × Obj)} (its : List Value) (g : Value → Bool)
    (step : ∀ v, v ∈ its → ∀ ys I oI C oC D m₂ h tk (E' : Value → Shared → Prop), NsObj oC m₂ → m₂ x = some v → Fr h₀ L h m → News h₀ L h ((I, oI) :: (C, oC) :: (D, lst ys) :: news) → Off3 I C D news → ((@Ne Nat I C) ∧ (@Ne Nat I D) ∧ (@Ne Nat C D)) →
      wpAny (model prog w) A (isTrue ct (compEnvC scope cl C env) (eval ct (compEnvC scope cl C env))) (fun ok s' => if ok = true then
        wpAny (model prog w) A (eval elt (compEnvC scope cl C env)) (CompEnd h₀ L m { s with heap := h, toks := tk } I oI C oC D (lst ys) S (fun y news' => news' = news ∧ y = v ∧ g v = true)) E' s'
        else CompEnd h₀ L m { s with heap := h, toks := tk } I oI C oC D (lst ys) S (fun _ news' => news' = news ∧ g v = false) Value.none s') E' { s with heap := h, toks := tk })
    (fin : Fin (its.filter g) news) :
    CompRestT prog w A h₀ L m env ct elt x scope cl s S (fun i v => its.toArray[i]? = some v) Fin its.length 0 [] news := by
  have key : ∀ (k i : Nat), i + k = its.length → CompRestT prog w A h₀ L m env ct elt x scope cl s S (fun i v => its.toArray[i]? = some v) Fin k i ((its.take i).filter g) news := by
    intro k
    induction k with
    | zero =>
      intro i hi
      have : its.take i = its := List.take_of_length_le (by omega)
      rw [this]
      exact fin
    | succ k ih =>
      intro i hi
      refine CompRestT.succ ?_
      intro v I oI C oC D m₂ h tk E' hP hC hk F N off ne
      have hv : its[i]? = some v := by simpa using hP
      have et : its.take (i + 1) = its.take i ++ [v] := by rw [List.take_add_one, hv]; rfl
      refine wpAny_mono (step v (List.mem_of_getElem? hv) _ I oI C oC D m₂ h tk E' hC hk F N off ne) ?_ fun _ _ e => e
      intro ok s' q
      have nx := ih (i + 1) (by omega)
      rw [et] at nx
      split
      · rename_i ho
        rw [if_pos ho] at q
        refine wpAny_mono q ?_ fun _ _ e => e
        intro y s₂ z
        refine CompEnd.mono ?_ z
        rintro n ⟨rfl, rfl, hg⟩
        rw [List.filter_append] at nx
        simpa [hg] using nx
      · rename_i ho
        rw [if_neg ho] at q
        refine CompEnd.mono ?_ q
        rintro n ⟨rfl, hg⟩
        rw [List.filter_append] at nx
        simpa [hg] using nx
  exact key its.length 0 (by omega)
end
end Mine
end
section
open PySem PySem.W PyProof.Rows PySem.Calls PySem.Spec
set_option maxRecDepth 100000
namespace Mine
section
variable {prog : Program} {w : World} {A : Around} {E : Value → Shared → Prop} {s : Shared} {env : Env} {h₀ : Heap} {target : Expr} {body : List Stmt} {Q : Flow → Shared → Prop}
theorem UnrEndW.mono {L : Addr} {s₁ s₂ : Shared} {its : List (Addr × Obj)} {r r' : (Str → Option Value) → List (Addr × Obj) → Prop} (H : ∀ m n, r m n → r' m n) (h : UnrEndW h₀ L s₁ its r s₂) : UnrEndW h₀ L s₁ its r' s₂ := by
  obtain ⟨h', tk, m', n', e, F, N, off, z⟩ := h
  exact ⟨h', tk, m', n', e, F, N, off, H _ _ z⟩
theorem UnrEndW.mk {L : Addr} {s₁ : Shared} {its : List (Addr × Obj)} {r : (Str → Option Value) → List (Addr × Obj) → Prop} {h' : Heap} {tk : Nat} {m' : Str → Option Value} {all news' : List (Addr × Obj)} (F : Fr h₀ L h' m') (N : News h₀ L h' all)
    (sub : ∀ p ∈ its ++ news', p ∈ all) (off : ∀ p ∈ news', ∀ q ∈ its, p.1 ≠ q.1) (z : r m' news') : UnrEndW h₀ L s₁ its r { s₁ with heap := h', toks := tk } :=
  ⟨h', tk, m', news', rfl, F, fun p hp => N p (sub p hp), off, z⟩
theorem itemsRest_ind {I : Addr} {keep : List (Addr × Obj)} (J : List Value → (Str → Option Value) → List (Addr × Obj) → Prop)
    (step : ∀ v r m news, J (v :: r) m news → ∀ (it : Obj) h tk, it.cls = .type "list_iterator" → Fr h₀ env.locals h m → News h₀ env.locals h ((I, it) :: news) →
      wpAny (model prog w) A (assign target env v) (fun _ s₂ => wpAny (model prog w) A (execs body env) (UnrPostW h₀ env.locals { s with heap := h, toks := tk } [(I, it)] (fun m' n' => SubL keep n' ∧ J r m' n') Q) E s₂) E { s with heap := h, toks := tk })
    (fin : ∀ m news, J [] m news → ∀ h tk, Fr h₀ env.locals h m → News h₀ env.locals h news → Q .next { s with heap := h, toks := tk }) :
    ∀ vs m news, J vs m news → ItemsRest prog w A E h₀ env target body Q s [(I, "list_iterator")] keep (vs.map .val) m news := by
  intro vs
  induction vs with
  | nil => intro m news j; exact ItemsRest.zero (fin m news j)
  | cons v r ih =>
    intro m news j
    refine ItemsRest.val fun h tk F => AllObj.cons fun o hc => AllObj.nil fun N => ?_
    refine wpAny_mono (step v r m news j o h tk hc F N) (fun _ s₂ q => wpAny_mono q (fun f s₃ p => ?_) fun _ _ e => e) fun _ _ e => e
    have up : ∀ m' n', (SubL keep n' ∧ J r m' n') → (SubL keep n' ∧ ItemsRest prog w A E h₀ env target body Q s [(I, "list_iterator")] keep (r.map .val) m' n') := fun m' n' z => ⟨z.1, ih m' n' z.2⟩
    cases f with
    | next => exact UnrEndW.mono up p
    | cont => exact UnrEndW.mono up p
    | brk => exact p
    | ret v => exact p
end
end Mine
end
section
open PySem PySem.W PyProof.Rows PySem.Calls PySem.Spec
set_option maxRecDepth 100000
namespace Mine
open PyProof.Rows.LCg
inductive All2 (G : Value → Value → Prop) : List Value → List Value → Prop
  | nil : All2 G [] []
  | cons {v y vs ys} : G v y → All2 G vs ys → All2 G (v :: vs) (y :: ys)
theorem All2.snoc {G : Value → Value → Prop} {v y : Value} (h : G v y) : ∀ {vs ys : List Value}, All2 G vs ys → All2 G (vs ++ [v]) (ys ++ [y])
  | _, _, .nil => .cons h .nil
  | _, _, .cons a r => .cons a (All2.snoc h r)
section
variable {prog : Program} {w : World} {A : Around} {s : Shared} {h₀ : Heap} {L : Addr} {m : Str → Option Value} {env : Env}
theorem comp_ind {x : Str} {elt : Expr} {scope : Scope} {cl : List (Str × Addr)} {S : List (Addr × Obj) → Prop} {Fin : List Value → List (Addr × Obj) → Prop} {news : List (Addr × Obj)} (its : List Value) (G : Value → Value → Prop)
    (step : ∀ v, v ∈ its → ∀ ys I oI C oC D m₂ h tk (E' : Value → Shared → Prop), NsObj oC m₂ → m₂ x = some v → Fr h₀ L h m → News h₀ L h ((I, oI) :: (C, oC) :: (D, lst ys) :: news) → Off3 I C D news → ((@Ne Nat I C) ∧ (@Ne Nat I D) ∧ (@Ne Nat C D)) →
      wpAny (model prog w) A (eval elt (compEnvC scope cl C env)) (CompEnd h₀ L m { s with heap := h, toks := tk } I oI C oC D (lst ys) S (fun y news' => news' = news ∧ G v y)) E' { s with heap := h, toks := tk })
    (fin : ∀ ys, All2 G its ys → Fin ys news) :
    CompRest prog w A h₀ L m env elt x scope cl s S (fun i v => its.toArray[i]? = some v) Fin its.length 0 [] news := by
  have key : ∀ (k i : Nat) (ys : List Value), i + k = its.length → All2 G (its.take i) ys → CompRest prog w A h₀ L m env elt x scope cl s S (fun i v => its.toArray[i]? = some v) Fin k i ys news := by
    intro k
    induction k with
    | zero =>
      intro i ys hi ha
      have : its.take i = its := List.take_of_length_le (by omega)
      rw [this] at ha
      exact fin ys ha
    | succ k ih =>
      intro i ys hi ha
      refine CompRest.succ ?_
      intro v I oI C oC D m₂ h tk E' hP hC hk F N off ne
      have hv : its[i]? = some v := by simpa using hP
      have et : its.take (i + 1) = its.take i ++ [v] := by rw [List.take_add_one, hv]; rfl
      refine wpAny_mono (step v (List.mem_of_getElem? hv) _ I oI C oC D m₂ h tk E' hC hk F N off ne) ?_ fun _ _ e => e
      rintro y s₂ ⟨h', tk', n', e1, F', N', off', hS, rfl, hg⟩
      exact ⟨h', tk', n', e1, F', N', off', hS, ih (i + 1) (ys ++ [y]) (by omega) (et ▸ ha.snoc hg)⟩
  exact key its.length 0 [] (by omega) .nil
end
end Mine
end
section
open PySem PySem.W PyProof.Rows PySem.Calls PySem.Spec
set_option maxRecDepth 100000
set_option maxHeartbeats 4000000
namespace Mine
open PyProof.Rows.LCg
section
variable {prog : Program} {w : World} {A : Around} {R : Result → Shared → Prop} {env : Env}

theorem calm {α : Type} {M : Model} {t : Sem α} {Q : α → Shared → Prop} {E : Value → Shared → Prop} {s : Shared} (h : wpC M A t Q No s) : wpC M A t Q E s := wpC_mono h (fun _ _ q => q) fun _ _ f => False.elim f

/-- a for without an else, whose turns neither raise nor leave: k values of n have been taken when Inv k holds -/
theorem codeC_for {tgt : Expr} {it : Value} {body : List Stmt} {n : Nat} (Inv : Nat → Shared → Prop) (own : ∀ v, letOwnedTupleGo tgt it v = pure ())
    (item : ∀ k s, k < n → Inv k s → wpAny (model prog w) A (pyNext it)
      (fun r s₁ => ∃ v, r = some v ∧ wpAny (model prog w) A (assign tgt env v) (fun _ s₂ => wpC (model prog w) A (execs body env) (fun f s₃ => f = .next ∧ Inv (k + 1) s₃) No s₂) No s₁) No s)
    (last : ∀ s, Inv n s → wpAny (model prog w) A (pyNext it) (fun r s₁ => r = none ∧ R (.ok .next) s₁) No s) :
    ∀ (left k : Nat) (s : Shared), left + k = n → Inv k s → codeC (model prog w) A (.forLoop tgt it body [] env) R s := by
  have shape : (model prog w).den (.forLoop tgt it body [] env) = (standAt tgt.pos >>= fun _ => (pyNext it).onRaise (fun _ => standAt { tgt.pos with line := 0 }) >>= fun r => match r with
      | none => again (.block [] env)
      | some v => letOwnedTupleGo tgt it v >>= fun _ => assign tgt env v >>= fun _ => execs body env >>= fun f => match f with
        | .next | .cont => again (.forLoop tgt it body [] env)
        | .brk => pure (.done .next)
        | .ret v => pure (.done (.ret v))).onRaise (fun x => do noteFrame x env; theTreesLotGoes x) := by rfl
  intro left
  induction left with
  | zero =>
    intro k s hk inv
    obtain rfl : k = n := (Nat.zero_add k).symm.trans hk
    refine codeC_of_tree ?_
    rw [shape]
    refine wpC_onRaise (calm (wpC_then (wpAny_standAt (wpC_then (wpAny_onRaise (wpAny_mono (last s inv) ?_ fun _ _ f => f.elim))))))
    rintro r s₁ ⟨rfl, h⟩
    exact wpC_pure ⟨rfl, codeC_of (codeAny_block (wpAny_execs_nil h))⟩
  | succ left ih =>
    intro k s hk inv
    have less : k < n := by rw [← hk, Nat.succ_add]; exact Nat.lt_succ_of_le (Nat.le_add_left _ _)
    refine codeC_of_tree ?_
    rw [shape]
    refine wpC_onRaise (calm (wpC_then (wpAny_standAt (wpC_then (wpAny_onRaise (wpAny_mono (item k s less inv) ?_ fun _ _ f => f.elim))))))
    rintro r s₁ ⟨v, rfl, h⟩
    dsimp only
    rw [own v]
    refine wpC_bind (wpC_pure (wpC_then (wpAny_mono h (fun _ s₂ h₂ => wpC_bind (wpC_mono h₂ ?_ fun _ _ f => f)) fun _ _ f => f)))
    rintro f s₃ ⟨rfl, h₃⟩
    exact wpC_pure ⟨rfl, ih (k + 1) s₃ (by rw [← hk, Nat.succ_add, Nat.add_succ]) h₃⟩
end
section
variable {prog : Program} {w : World} {A : Around} {E : Value → Shared → Prop} {s : Shared} {h₀ : Heap} {env : Env}
/-- what a loop over a list asks: its list, what a turn keeps, what holds at the end -/
noncomputable def ForSrc (prog : Program) (w : World) (A : Around) (h₀ : Heap) (env : Env) (x : Str) (body : List Stmt) (Q : Flow → Shared → Prop) (xv : Value) (s₁ : Shared) : Prop :=
  ∃ (ax : Addr) (its : Array Value) (news : List (Addr × Obj)) (m₁ : Str → Option Value), xv = .ref ax ∧ Fr h₀ env.locals s₁.heap m₁ ∧ News h₀ env.locals s₁.heap news ∧ SrcAt h₀ ax its news ∧
    (∀ v, v ∈ its.toList → ∀ (I : Addr) (oI : Obj) (m₂ : Str → Option Value) (h : Heap) (tk : Nat), Fr h₀ env.locals h (fun y => if y = x then some v else m₂ y) → News h₀ env.locals h ((I, oI) :: news) →
      wpC (model prog w) A (execs body env) (fun f s' => f = .next ∧ ∃ h' tk' m', s' = { s₁ with heap := h', toks := tk' } ∧ Fr h₀ env.locals h' m' ∧ News h₀ env.locals h' ((I, oI) :: news)) No { s₁ with heap := h, toks := tk }) ∧
    (∀ (h : Heap) (tk : Nat) (m' : Str → Option Value), Fr h₀ env.locals h m' → Q .next { s₁ with heap := h, toks := tk })

theorem For_listC {iter : Expr} {x : Str} {px pos : Pos} {body : List Stmt} {Q : Flow → Shared → Prop} (hh : A.handled = none) (hx : env.kindOf x = some .local) (hp : (env.scope.kind == .class || (env.scope.kind == .module && env.locals != env.globals)) = false)
    (h : wpAny (model prog w) A (eval iter env) (ForSrc prog w A h₀ env x body Q) E s) (hs : ∀ x, foldedSetIterable iter env x = pure x := by intro _; rfl) :
    wpC (model prog w) A (exec (.For (.Name x px) iter body [] pos) env) Q E s := by
  rw [exec_For]
  refine wpC_then (wpAny_standAt (wpC_then (wpAny_mono h ?_ fun _ _ e => e)))
  rintro xv s₁ ⟨ax, its, news, m₁, rfl, F, N, S, step, fin⟩
  have O := Own.next F N
  rw [hs]
  refine wpC_bind (wpC_pure (wpC_then (wpAny_standAt (wpC_then (wpAny_holding (wpAny_pyIter_list (S.list F.keep N) ?_))))))
  have up : ∀ b o, s₁.heap.get? b = some o → (s₁.heap.push { cls := .type "list_iterator", data := .fields #[.ref ax, .int 0 0] }).get? b = some o := fun b o e => Heap.get?_push_of_some _ e
  have at0 : (s₁.heap.push { cls := .type "list_iterator", data := .fields #[.ref ax, .int 0 0] }).IsListIter s₁.heap.objs.size ax 0 := ⟨_, Heap.get?_push_size _ rfl, rfl, rfl⟩
  have loop : codeC (model prog w) (A.mark none) (.forLoop (.Name x px) (.ref s₁.heap.objs.size) body [] env) (fun r s' => match r with | .ok f => Q f s' | .error _ => False) { s₁ with heap := s₁.heap.push { cls := .type "list_iterator", data := .fields #[.ref ax, .int 0 0] } } := by
    refine codeC_for (n := its.size) (fun k s' => ∃ h' tk m', s' = { s₁ with heap := h', toks := tk } ∧ h'.IsListIter s₁.heap.objs.size ax k ∧ Fr h₀ env.locals h' m' ∧ News h₀ env.locals h' news) (fun _ => rfl) ?_ ?_ its.size 0 _ rfl
      ⟨_, s₁.toks, m₁, rfl, at0, F.keeps up, N.grown up⟩
    · rintro k s' hk ⟨h', tk, m', rfl, it, F', N'⟩
      refine wpAny_pyNext_list_item it (S.list F'.keep N') (Array.getElem?_eq_getElem hk) fun h1 it1 b1 => ⟨_, rfl, ?_⟩
      have z := O.step b1.extBut F' N'
      refine wpAny_assign_Name (wpAny_storeName_local hx z.1.ns (fun h2 n2 b2 => ?_) hp)
      obtain ⟨oI, eI, rI⟩ := it1
      have N2 := (O.row eI z.2).set b2
      refine wpC_mono (step its[k] (Array.mem_toList_iff.mpr (Array.getElem_mem hk)) _ oI m' h2 _ (z.1.set n2 b2) N2) ?_ fun _ _ f => f
      rintro f s₃ ⟨rfl, h₃, tk₃, m₃, rfl, F₃, N₃⟩
      exact ⟨rfl, h₃, tk₃, m₃, rfl, ⟨oI, (N₃ _ (.head _)).1, rI⟩, F₃, fun p hp => N₃ p (.tail _ hp)⟩
    · rintro s' ⟨h', tk, m', rfl, it, F', N'⟩
      exact wpAny_pyNext_list_end hh it (S.list F'.keep N') (Array.getElem?_eq_none (Nat.le_refl _)) fun h1 b1 => ⟨rfl, fin h1 tk m' (O.step b1 F' N').1⟩
  unfold runOwn
  refine wpC_onRaise (wpC_run (h := none) (codeC_mono loop ?_))
  rintro (e | f) s' q
  · exact False.elim q
  · exact q
end
end Mine
end
section
open PySem PySem.W PyProof.Rows
set_option maxRecDepth 100000
namespace Mine
section
variable {prog : Program} {w : World} {A : Around} {E : Value → Shared → Prop} {s : Shared} {t sl : Addr} {u : Tok} {a0 a1 a2 a3 a4 a5 a6 a7 a8 a9 : Value}

/-- a slice «:9» of ten places: from 0, by steps of 1, nine of them -/
theorem nine_applied {Q : Int × Int × Nat → Shared → Prop} (hs : s.heap.IsSliceOf sl .none (.int 9 u) .none) (h : Q (0, 1, 9) s) :
    wpAny (model prog w) A (Builtin.Slice.sliceApplied (.ref sl) (pure 10)) Q E s := by
  obtain ⟨o, ho, -, hd⟩ := hs
  have part {k : Nat} {v : Value} {P : Value → Shared → Prop} (e : (#[Value.none, .int 9 u, .none] : Array Value)[k]? = some v) (q : P v s) : wpAny (model prog w) A (field (.ref sl) k) P E s :=
    wpAny_field ho hd e q
  refine wpAny_bind (m := Builtin.Slice.sliceFields (.ref sl)) (wpAny_bind (part rfl (wpAny_bind (part rfl (wpAny_bind (part rfl (wpAny_pure ?_)))))))
  refine wpAny_bind (slicePart_none ?_)
  show wpAny _ A (Builtin.Slice.slicePartIndex .none >>= fun lo => Builtin.Slice.slicePartIndex (.int 9 u) >>= fun hi => pure 10 >>= fun n => _) Q E s
  exact wpAny_bind (slicePart_none (wpAny_bind (slicePart_int (wpAny_bind (wpAny_pure (wpAny_pure h))))))

/-- the first nine values of a tuple of ten -/
theorem nine_of_ten {Q : Value → Shared → Prop} (ht : IsTup s.heap t #[a0, a1, a2, a3, a4, a5, a6, a7, a8, a9]) (hs : s.heap.IsSliceOf sl .none (.int 9 u) .none)
    (h : Q (.ref s.heap.objs.size) { s with heap := s.heap.push { cls := .type "tuple", data := .seq #[a0, a1, a2, a3, a4, a5, a6, a7, a8] } }) :
    wpAny (model prog w) A (getItem (.ref t) (.ref sl)) Q E s := by
  have isSlice : s.TypeIs (.ref sl) "slice" := hs.elim fun o x => ⟨o, x.1, x.2.1⟩
  have body : ∀ (A : Around) (P : Fin → Shared → Prop) (E : Value → Shared → Prop), (P (.done (.ret (.ref s.heap.objs.size))) { s with heap := s.heap.push { cls := .type "tuple", data := .seq #[a0, a1, a2, a3, a4, a5, a6, a7, a8] } }) →
      wpAny (model prog w) A (Builtin.«tuple.__getitem__» ⟨[.ref t, .ref sl], []⟩) P E s := by
    intro A P E hP
    show wpAny _ A (Builtin.Tuple.tupleItemsOf (.ref t) >>= fun xs => typeOf (.ref sl) >>= fun T => _) P E s
    refine wpAny_bind (tupleItemsOf_ ht (wpAny_bind (wpAny_typeOf isSlice ?_)))
    show wpAny _ A (Builtin.Slice.sliceApplied (.ref sl) (pure 10) >>= _) P E s
    refine wpAny_bind (nine_applied hs ?_)
    show wpAny _ A (Builtin.Tuple.tupleExact #[a0, a1, a2, a3, a4, a5, a6, a7, a8] >>= fun r => ret r) P E s
    exact wpAny_bind (m := Builtin.Tuple.tupleExact _) (wpAny_newObj_type (wpAny_pure hP) (by show 9 ≤ sizeLine; decide))
  unfold getItem
  refine wpAny_holding (wpAny_bind (wpAny_sequenceKey ht.typeIs (by decide) (wpAny_bind (wpAny_callSpecial?_slot ht.typeIs slot_tuple_getitem (wpAny_call_entry slot_tuple_getitem ht.typeIs entry_tuple_getitem ?_ (args_tuple_getitem _ _))))))
  exact body _ _ _ ⟨_, rfl, wpAny_pure h⟩

/-- t[:9] of a tuple of ten, with frame and ledger: the slice is made already, the nine become a new row of the ledger -/
theorem slice_nine {h₀ : Heap} {L : Addr} {m : Str → Option Value} {news : List (Addr × Obj)} {value slice : Expr} {Q : Value → Shared → Prop} (F : Fr h₀ L s.heap m) (N : News h₀ L s.heap news) (ht : IsTup s.heap t #[a0, a1, a2, a3, a4, a5, a6, a7, a8, a9])
    (h : ∀ h', Fr h₀ L h' m → News h₀ L h' ((s.heap.objs.size + 1, { cls := .type "tuple", data := .seq #[a0, a1, a2, a3, a4, a5, a6, a7, a8] }) :: news) → Q (.ref (s.heap.objs.size + 1)) { s with heap := h' })
    (plain : subscripted slice false (.ref t) (.ref s.heap.objs.size) = operate [.ref s.heap.objs.size, .ref t] (getItem (.ref t) (.ref s.heap.objs.size)) := by with_unfolding_all rfl)
    (kept : ∀ r, letTemporaryGo value (.ref t) r = pure () := by intro _; with_unfolding_all rfl) :
    wpAny (model prog w) A (subscriptTail value slice (.ref t) (.ref s.heap.objs.size)) Q E { s with heap := s.heap.push { cls := .type "slice", data := .fields #[.none, .int 9 u, .none] } } := by
  have N1 := N.push F { cls := .type "slice", data := .fields #[.none, .int 9 u, .none] }
  have N2 := N1.push (F.push _) { cls := .type "tuple", data := .seq #[a0, a1, a2, a3, a4, a5, a6, a7, a8] }
  have T1 := ht.keeps fun _ _ e => Heap.get?_push_of_some { cls := .type "slice", data := .fields #[.none, .int 9 u, .none] } e
  have z := h _ ((F.push _).push _) (fun p hp => N2 p ((List.mem_cons.mp hp).elim (fun e => by rw [e, Heap.size_push]; exact .head _) fun e => .tail _ (.tail _ e)))
  refine subscriptTail_ops (s := { s with heap := s.heap.push { cls := .type "slice", data := .fields #[.none, .int 9 u, .none] } }) T1.typeIs slot_tuple_getitem.lookup (nine_of_ten T1 ⟨_, (N1 _ (.head _)).1, rfl, rfl⟩ ?_) plain kept
  show Q (.ref (s.heap.push _).objs.size) _
  rw [Heap.size_push]
  exact z
end
end Mine
end
section
open PySem PySem.W PyProof.Rows PySem.Calls
namespace Mine
local macro_rules | `(tactic| walk_at "eval Name") => `(tactic| (k_here; k_dflt (refine' nameX_L ?F ?v ?_ ?a ?b; (case F => k_asm); (case a => rfl); (case b => rfl); (case v => first | rfl | assumption); k_whole)))
section
theorem reset1 : True := by
  k_with_none
  w_top off
  trivial
set_option maxRecDepth 100000
set_option maxHeartbeats 8000000

theorem p28 (w : World) (m : Str → Option Value) (news : List (Addr × Obj)) (yy mm dd thh tmm tss : Int) (t1 t2 t3 t4 t5 t6 t7 : Tok) (z : Option Int)
  (h1 : m (Str.ofString "yy") = some (.int yy t1)) (h2 : m (Str.ofString "mm") = some (.int mm t2)) (h3 : m (Str.ofString "dd") = some (.int dd t3))
  (h4 : m (Str.ofString "thh") = some (.int thh t4)) (h5 : m (Str.ofString "tmm") = some (.int tmm t5)) (h6 : m (Str.ofString "tss") = some (.int tss t6)) (h7 : m (Str.ofString "tzoffset") = some (tzVal z t7)) :
   Runs w 31 28 m news 1 (ParseR (some ⟨yy, mm, dd, thh, tmm, tss, z⟩) news) := by
  ((k_dflt (refine' Runs.intro ?ho ?hb ?_; (case ho => k_is); (case hb => rfl))); intro _ _ _ _ _ _ _ _ _ _ _ _ _ _ _ _ _ _ _ _ _ _ _ _ _ _ _)
  intro hret
  k_steps
  exact hret _ _ _ _ _ (by assumption) (by assumption) ⟨(Keeps.refl _).cons, _, _, _, _, _, _, _, _, _, _, _, rfl, .head _, by assumption⟩

noncomputable def tzFin : Option Int → Option Int
  | none => none
  | some z => if z = 0 then some 0 else if z < 0 then some (-1 * ((-z).fdiv 100 * 3600 + (-z).fmod 100 * 60)) else some (1 * (z.fdiv 100 * 3600 + z.fmod 100 * 60))

theorem ParseR.mk {r : Option PRes} {yy mm dd hh mi ss : Int} {z : Option Int} {nw0 nw' : List (Addr × Obj)} {D : Addr} {t1 t2 t3 t4 t5 t6 t7 t8 t9 t10 : Tok} (hk : Keeps nw0 nw') (e : r = some ⟨yy, mm, dd, hh, mi, ss, z⟩)
    (hm : (D, W.listOf #[.int yy t1, .int mm t2, .int dd t3, .int hh t4, .int mi t5, .int ss t6, .int 0 t7, .int 1 t8, .int (-1) t9, tzVal z t10] 0) ∈ nw') (hl : ∀ p ∈ nw0, p.1 < D) : ParseR r nw0 (.ref D) nw' := by
  subst e
  exact ⟨hk, D, t1, t2, t3, t4, t5, t6, t7, t8, t9, t10, rfl, hm, hl⟩

theorem p27 (w : World) (m : Str → Option Value) (news : List (Addr × Obj)) (yy mm dd thh tmm tss : Int) (t1 t2 t3 t4 t5 t6 t7 : Tok) (z : Option Int)
  (h1 : m (Str.ofString "yy") = some (.int yy t1)) (h2 : m (Str.ofString "mm") = some (.int mm t2)) (h3 : m (Str.ofString "dd") = some (.int dd t3))
  (h4 : m (Str.ofString "thh") = some (.int thh t4)) (h5 : m (Str.ofString "tmm") = some (.int tmm t5)) (h6 : m (Str.ofString "tss") = some (.int tss t6)) (h7 : m (Str.ofString "tzoffset") = some (tzVal z t7))
  (hz : ∀ i, z = some i → i.natAbs < 10 ^ 100) :
   Runs w 31 27 m news 1 (ParseR (some ⟨yy, mm, dd, thh, tmm, tss, tzFin z⟩) news) := by
  ((k_dflt (refine' Runs.intro ?ho ?hb ?_; (case ho => k_is); (case hb => rfl))); intro _ _ _ _ _ _ _ _ _ _ _ _ _ _ _ _ _ _ _ _ _ _ _ _ _ _ _)
  intro hret
  cases z with
  | none =>
    simp only [tzVal] at h7
    refine execs_step ?_
    k_steps
    refine Hold.mk ?_
    exact Runs.elim (k := 28) (p28 w _ news yy mm dd thh tmm tss t1 t2 t3 t4 t5 t6 t7 none h1 h2 h3 h4 h5 h6 h7) (by k_asm) (by k_asm) (by assumption) (by assumption) (by assumption) (by assumption) (by assumption) (by assumption) (by k_is) (by rfl) hret
  | some i =>
    simp only [tzVal] at h7
    have hb := hz i rfl
    refine execs_step ?_
    k_steps
    all_goals (
      refine Hold.mk ?_
      refine' Runs.elim (k := 28) (p28 w _ news yy mm dd thh tmm tss t1 t2 t3 t4 t5 t6 _ (some _) ?_ ?_ ?_ ?_ ?_ ?_ ?_) (by k_asm) (by k_asm) (by assumption) (by assumption) (by assumption) (by assumption) (by assumption) (by assumption) (by k_is) (by rfl) ?_
      any_goals first | exact h1 | exact h2 | exact h3 | exact h4 | exact h5 | exact h6 | exact h7 | (show _ = some (tzVal (some _) _); exact rfl)
      intro v nw' m' h' tk' F N r
      refine hret v nw' m' h' tk' F N (ParseR.congr r ?_))
    all_goals (clear hret; first | (simp_all [tzFin]; done) | (simp_all [tzFin]; omega))
end
section
theorem reset2 : True := by
  k_with_none
  w_top off
  trivial
set_option maxRecDepth 100000
set_option maxHeartbeats 8000000

/-- the zone's number where the name is not known -/
noncomputable def tzInt (tz : Str) : Option Int := match PySem.intText? tz with
  | none => none
  | some i => if i = 0 ∧ Txt.startswith tz (Str.ofString "-") = true then none else some i
/-- the zone's number, by the text in capitals -/
noncomputable def tzOf (tz : Str) : Option Int := if tz = ⟨#[85, 84]⟩ then some (0) else if tz = ⟨#[85, 84, 67]⟩ then some (0) else if tz = ⟨#[71, 77, 84]⟩ then some (0) else if tz = ⟨#[90]⟩ then some (0) else if tz = ⟨#[65, 83, 84]⟩ then some (-400) else if tz = ⟨#[65, 68, 84]⟩ then some (-300) else if tz = ⟨#[69, 83, 84]⟩ then some (-500) else if tz = ⟨#[69, 68, 84]⟩ then some (-400) else if tz = ⟨#[67, 83, 84]⟩ then some (-600) else if tz = ⟨#[67, 68, 84]⟩ then some (-500) else if tz = ⟨#[77, 83, 84]⟩ then some (-700) else if tz = ⟨#[77, 68, 84]⟩ then some (-600) else if tz = ⟨#[80, 83, 84]⟩ then some (-800) else if tz = ⟨#[80, 68, 84]⟩ then some (-700) else tzInt tz
theorem tzOf_no {tz : Str} (h : (decide (tz = ⟨#[85, 84]⟩) || (decide (tz = ⟨#[85, 84, 67]⟩) || (decide (tz = ⟨#[71, 77, 84]⟩) || (decide (tz = ⟨#[90]⟩) || (decide (tz = ⟨#[65, 83, 84]⟩) || (decide (tz = ⟨#[65, 68, 84]⟩) || (decide (tz = ⟨#[69, 83, 84]⟩) || (decide (tz = ⟨#[69, 68, 84]⟩) || (decide (tz = ⟨#[67, 83, 84]⟩) || (decide (tz = ⟨#[67, 68, 84]⟩) || (decide (tz = ⟨#[77, 83, 84]⟩) || (decide (tz = ⟨#[77, 68, 84]⟩) || (decide (tz = ⟨#[80, 83, 84]⟩) || (decide (tz = ⟨#[80, 68, 84]⟩) || false)))))))))))))) = false) : tzOf tz = tzInt tz := by
  simp only [Bool.or_eq_false_iff, decide_eq_false_iff_not] at h
  unfold tzOf
  simp only [h, if_false]

theorem p26 (w : World) (m : Str → Option Value) (news : List (Addr × Obj)) (yy mm dd thh tmm tss : Int) (t1 t2 t3 t4 t5 t6 t7 : Tok) (tz : Str)
  (h1 : m (Str.ofString "yy") = some (.int yy t1)) (h2 : m (Str.ofString "mm") = some (.int mm t2)) (h3 : m (Str.ofString "dd") = some (.int dd t3))
  (h4 : m (Str.ofString "thh") = some (.int thh t4)) (h5 : m (Str.ofString "tmm") = some (.int tmm t5)) (h6 : m (Str.ofString "tss") = some (.int tss t6)) (h7 : m (Str.ofString "tz") = some (.str tz t7))
  (h8 : m (Str.ofString "tzoffset") = some .none) (hl : tz.length ≤ 600) (hz : (reprText tz).length ≤ sizeLine) (hbig : ∀ i, tzOf tz = some i → i.natAbs < 10 ^ 100) :
   RunsC w 31 26 m news 1 (ParseR (some ⟨yy, mm, dd, thh, tmm, tss, tzFin (tzOf tz)⟩) news) := by
  ((k_dflt (refine' RunsC.intro ?ho ?hb ?_; (case ho => k_is); (case hb => rfl))); intro _ _ _ _ _ _ _ _ _ _ _ _ _ _ _ _ _ _ _ _ _ _ _ _ _ _ _ _ _)
  intro hret
  refine execs_consC (If_C (wpC_of ?_))
  k_steps
  · refine wpC_of ?_
    k_steps
    all_goals (
      dsimp only
      refine' RunsC.elim (Runs.toC (p27 w _ _ _ _ _ _ _ _ _ _ _ _ _ _ _ (some _) ?yh1 ?yh2 ?yh3 ?yh4 ?yh5 ?yh6 ?yh7 ?yhz)) ?zF ?zN ?zB ?zX ?zT ?zhk ?zhd ?zhu ?zho ?zhb ?_
      (case zF => k_asm); (case zN => k_asm); (case zB => assumption); (case zX => assumption); (case zT => assumption); (case zhk => assumption); (case zhd => assumption); (case zhu => assumption)
      (case zho => k_is); (case zhb => rfl)
      (case yh1 => exact h1); (case yh2 => exact h2); (case yh3 => exact h3); (case yh4 => exact h4); (case yh5 => exact h5); (case yh6 => exact h6); (case yh7 => exact rfl)
      (case yhz => intro i e; cases e; decide)
      intro v nw' m' h' tk' g' Tn F N r
      refine hret v nw' m' h' tk' g' Tn F N ?_
      subst_vars
      exact r)
  · have hno := tzOf_no (by assumption)
    refine execs_consC (Try_exceptC (execs_consC (Assign_NameC (Call_C ?_))))
    k_steps
    refine callWith_type1C ?_
    k_steps
    cases hn : PySem.intText? tz with
    | none =>
      refine call_int_bad rfl (Nat.le_trans hl (by decide)) hn hz ?_
      intro h' tk' e' x'
      dsimp only
      (refine caught_here (by assumption) (by k_asm) (by k_asm) (by k_asm) (by assumption) (by assumption) (by k_is) PyProof.Rows.Boot.«ValueError» (by decide) PySem.F.isExc_ValueError PySem.F.notTuple_ValueError (by rw [isSubtype_type]; kernel_rfl) ?_)
      intro h1' g1 Tn1 F1 N1 B1 X1 T1
      k_steps
      dsimp only
      refine execs_consC (wpC_of ?_)
      k_steps
      dsimp only
      refine execs_nilC ?_
      dsimp only
      refine' RunsC.elim (Runs.toC (p27 w _ _ _ _ _ _ _ _ _ _ _ _ _ _ 0 none ?yh1 ?yh2 ?yh3 ?yh4 ?yh5 ?yh6 ?yh7 ?yhz)) ?zF ?zN ?zB ?zX ?zT ?zhk ?zhd ?zhu ?zho ?zhb ?_
      (case zF => k_asm); (case zN => k_asm); (case zB => assumption); (case zX => assumption); (case zT => assumption); (case zhk => assumption); (case zhd => assumption); (case zhu => assumption)
      (case zho => k_is); (case zhb => rfl)
      (case yh1 => exact h1); (case yh2 => exact h2); (case yh3 => exact h3); (case yh4 => exact h4); (case yh5 => exact h5); (case yh6 => exact h6); (case yh7 => first | exact rfl | exact h8)
      (case yhz => intro i e; first | (cases e; done) | exact hbig i (by rw [hno]; simp_all [tzInt]))
      intro v nw' m' h' tk' g' Tn F N r
      refine hret v nw' m' h' tk' g' (Tn1.trans Tn) F N ?_
      have e : tzOf tz = none := by (rw [hno]; clear hret; simp_all [tzInt])
      rw [e]
      exact r
    | some n =>
      refine wpC_of (KIN.call_text hn (Nat.le_trans hl (by decide)) ?_)
      k_steps
      refine execs_nilC ?_
      dsimp only
      k_steps
      dsimp only
      refine execs_consC (wpC_of ?_)
      k_steps
      all_goals (dsimp only; refine execs_nilC ?_; dsimp only)
      all_goals first
        | (
          refine' RunsC.elim (Runs.toC (p27 w _ _ _ _ _ _ _ _ _ _ _ _ _ _ 0 none ?yh1 ?yh2 ?yh3 ?yh4 ?yh5 ?yh6 ?yh7 ?yhz)) ?zF ?zN ?zB ?zX ?zT ?zhk ?zhd ?zhu ?zho ?zhb ?_
          (case zF => k_asm); (case zN => k_asm); (case zB => assumption); (case zX => assumption); (case zT => assumption); (case zhk => assumption); (case zhd => assumption); (case zhu => assumption)
          (case zho => k_is); (case zhb => rfl)
          (case yh1 => exact h1); (case yh2 => exact h2); (case yh3 => exact h3); (case yh4 => exact h4); (case yh5 => exact h5); (case yh6 => exact h6); (case yh7 => first | exact rfl | exact h8)
          (case yhz => intro i e; first | (cases e; done) | exact hbig i (by rw [hno]; simp_all [tzInt]))
          intro v nw' m' h' tk' g' Tn F N r
          refine hret v nw' m' h' tk' g' Tn F N ?_
          have e : tzOf tz = none := by (rw [hno]; clear hret; simp_all [tzInt])
          rw [e]
          exact r)
        | (
          refine' RunsC.elim (Runs.toC (p27 w _ _ _ _ _ _ _ _ _ _ _ _ _ _ _ (some _) ?yh1 ?yh2 ?yh3 ?yh4 ?yh5 ?yh6 ?yh7 ?yhz)) ?zF ?zN ?zB ?zX ?zT ?zhk ?zhd ?zhu ?zho ?zhb ?_
          (case zF => k_asm); (case zN => k_asm); (case zB => assumption); (case zX => assumption); (case zT => assumption); (case zhk => assumption); (case zhd => assumption); (case zhu => assumption)
          (case zho => k_is); (case zhb => rfl)
          (case yh1 => exact h1); (case yh2 => exact h2); (case yh3 => exact h3); (case yh4 => exact h4); (case yh5 => exact h5); (case yh6 => exact h6); (case yh7 => first | exact rfl | exact h8)
          (case yhz => intro i e; first | (cases e; done) | exact hbig i (by rw [hno]; simp_all [tzInt]))
          intro v nw' m' h' tk' g' Tn F N r
          refine hret v nw' m' h' tk' g' Tn F N ?_
          have e : tzOf tz = some n := by (rw [hno]; clear hret; simp_all [tzInt])
          rw [e]
          exact r)
end
local macro_rules | `(tactic| walk_at "loadName") => `(tactic| (k_here; k_dflt (refine' ldn ?F ?v ?_; (case F => k_asm); (case v => first | rfl | assumption); k_whole)))
section
theorem reset3 : True := by
  k_with_none
  w_top off
  trivial
set_option maxRecDepth 100000
set_option maxHeartbeats 8000000

/-- the year, two figures by their century -/
noncomputable def yearOf (yy : Int) : Int := if yy < 100 then (if yy > 68 then yy + 1900 else yy + 2000) else yy

theorem p23 (w : World) (m : Str → Option Value) (news : List (Addr × Obj)) (yy mm dd thh tmm tss : Int) (t1 t2 t3 t4 t5 t6 t7 : Tok) (tz : Str)
  (h1 : m (Str.ofString "yy") = some (.int yy t1)) (h2 : m (Str.ofString "mm") = some (.int mm t2)) (h3 : m (Str.ofString "dd") = some (.int dd t3))
  (h4 : m (Str.ofString "thh") = some (.int thh t4)) (h5 : m (Str.ofString "tmm") = some (.int tmm t5)) (h6 : m (Str.ofString "tss") = some (.int tss t6)) (h7 : m (Str.ofString "tz") = some (.str tz t7))
  (hl : tz.length ≤ 200) (hz : (reprText (Txt.upper tz)).length ≤ sizeLine) (hbig : ∀ i, tzOf (Txt.upper tz) = some i → i.natAbs < 10 ^ 100) :
   RunsC w 31 23 m news 1 (ParseR (some ⟨yearOf yy, mm, dd, thh, tmm, tss, tzFin (tzOf (Txt.upper tz))⟩) news) := by
  ((k_dflt (refine' RunsC.intro ?ho ?hb ?_; (case ho => k_is); (case hb => rfl))); intro _ _ _ _ _ _ _ _ _ _ _ _ _ _ _ _ _ _ _ _ _ _ _ _ _ _ _ _ _)
  intro hret
  refine execs_consC (wpC_of ?_)
  k_steps
  all_goals (
    dsimp only
    refine execs_consC (wpC_of ?_)
    k_steps
    dsimp only
    refine execs_consC (wpC_of ?_)
    k_steps
    dsimp only)
  all_goals (
    refine' @RunsC.use w 31 26 _ _ _ _ _ _ _ _ _ _ _ _ _ _ _ _ _ _ _ _ _ _ _ _ _ _ _ _ _ _ _ _ _ _ _ _ _ _ _ (by k_asm) (by k_asm) (by assumption) (by assumption) (by assumption) (by assumption) (by assumption) (by assumption) (by k_is) (by rfl)
      (p26 w _ _ _ _ _ _ _ _ _ _ _ _ _ _ _ _ (by first | rfl | assumption) (by first | rfl | assumption) (by first | rfl | assumption) (by first | rfl | assumption) (by first | rfl | assumption) (by first | rfl | assumption) (by first | rfl | assumption) (by first | rfl | assumption) (by omega) hz hbig) ?_
    intro v nw' m' h' tk' g' Tn F N r
    refine hret v nw' m' h' tk' g' Tn F N (ParseR.congr r ?_)
    clear hret
    simp only [Option.some.injEq, PRes.mk.injEq, and_true, true_and]
    unfold yearOf
    simp only [decide_eq_true_eq, decide_eq_false_iff_not] at *
    split <;> (try split) <;> omega)
end
section
theorem reset4 : True := by
  k_with_none
  w_top off
  trivial
set_option maxRecDepth 100000
set_option maxHeartbeats 8000000

/-- a text that int() may be asked of -/
noncomputable def Sm (x : Str) : Prop := x.length ≤ 200 ∧ (reprText x).length ≤ sizeLine
/-- a text that may be the zone -/
noncomputable def Sz (tz : Str) : Prop := tz.length ≤ 200 ∧ (reprText (Txt.upper tz)).length ≤ sizeLine ∧ ∀ i, tzOf (Txt.upper tz) = some i → i.natAbs < 10 ^ 100

noncomputable def ints5 (yy dd thh tmm : Str) (ss : Option Int) (mm : Int) (tz : Str) : Option PRes :=
  match PySem.intText? yy with
  | none => none
  | some y => match PySem.intText? dd with
    | none => none
    | some d => match PySem.intText? thh with
      | none => none
      | some h => match PySem.intText? tmm with
        | none => none
        | some i => match ss with
          | none => none
          | some s => some ⟨yearOf y, mm, d, h, i, s, tzFin (tzOf (Txt.upper tz))⟩

noncomputable def SecIs (v : Value) (ss : Option Int) : Prop := (∃ x t, v = .str x t ∧ ss = PySem.intText? x ∧ Sm x) ∨ (∃ i t, v = .int i t ∧ ss = some i)


theorem p22 (w : World) (m : Str → Option Value) (news : List (Addr × Obj)) (mm : Int) (yy dd thh tmm tz : Str) (tssv : Value) (ss : Option Int) (t1 t2 t3 t4 t5 t7 : Tok)
  (h1 : m (Str.ofString "yy") = some (.str yy t1)) (h2 : m (Str.ofString "mm") = some (.int mm t2)) (h3 : m (Str.ofString "dd") = some (.str dd t3))
  (h4 : m (Str.ofString "thh") = some (.str thh t4)) (h5 : m (Str.ofString "tmm") = some (.str tmm t5)) (h6 : m (Str.ofString "tss") = some tssv) (h7 : m (Str.ofString "tz") = some (.str tz t7))
  (s1 : Sm yy) (s3 : Sm dd) (s4 : Sm thh) (s5 : Sm tmm) (s6 : SecIs tssv ss) (s7 : Sz tz) :
   RunsC w 31 22 m news 1 (ParseR (ints5 yy dd thh tmm ss mm tz) news) := by
  ((k_dflt (refine' RunsC.intro ?ho ?hb ?_; (case ho => k_is); (case hb => rfl))); intro _ _ _ _ _ _ _ _ _ _ _ _ _ _ _ _ _ _ _ _ _ _ _ _ _ _ _ _ _)
  intro hret
  refine execs_consC (Try_exceptC ?_)
  (refine execs_consC (Assign_NameC (Call_C ?_)); k_steps; refine callWith_type1C ?_; k_steps)
  cases n1 : PySem.intText? yy with
  | none =>
    refine call_int_bad rfl (Nat.le_trans s1.1 (by decide)) n1 s1.2 ?_
    (intro _ _ _ _; (try dsimp only); (refine caught_here (by assumption) (by k_asm) (by k_asm) (by k_asm) (by assumption) (by assumption) (by k_is) PyProof.Rows.Boot.«ValueError» (by decide) PySem.F.isExc_ValueError PySem.F.notTuple_ValueError (by rw [isSubtype_type]; kernel_rfl) ?_); intro _ _ _ _ _ _ _ _; k_steps)
    exact hret _ _ _ _ _ _ (by assumption) (by assumption) (by assumption) ⟨Keeps.refl _, by simp [ints5, n1]⟩
  | some y =>
  refine wpC_of (KIN.call_text n1 (Nat.le_trans s1.1 (by decide)) ?_)
  k_steps
  dsimp only
  (refine execs_consC (Assign_NameC (Call_C ?_)); k_steps; refine callWith_type1C ?_; k_steps)
  cases n3 : PySem.intText? dd with
  | none =>
    refine call_int_bad rfl (Nat.le_trans s3.1 (by decide)) n3 s3.2 ?_
    (intro _ _ _ _; (try dsimp only); (refine caught_here (by assumption) (by k_asm) (by k_asm) (by k_asm) (by assumption) (by assumption) (by k_is) PyProof.Rows.Boot.«ValueError» (by decide) PySem.F.isExc_ValueError PySem.F.notTuple_ValueError (by rw [isSubtype_type]; kernel_rfl) ?_); intro _ _ _ _ _ _ _ _; k_steps)
    exact hret _ _ _ _ _ _ (by assumption) (by assumption) (by assumption) ⟨Keeps.refl _, by simp [ints5, n1, n3]⟩
  | some d =>
  refine wpC_of (KIN.call_text n3 (Nat.le_trans s3.1 (by decide)) ?_)
  k_steps
  dsimp only
  (refine execs_consC (Assign_NameC (Call_C ?_)); k_steps; refine callWith_type1C ?_; k_steps)
  cases n4 : PySem.intText? thh with
  | none =>
    refine call_int_bad rfl (Nat.le_trans s4.1 (by decide)) n4 s4.2 ?_
    (intro _ _ _ _; (try dsimp only); (refine caught_here (by assumption) (by k_asm) (by k_asm) (by k_asm) (by assumption) (by assumption) (by k_is) PyProof.Rows.Boot.«ValueError» (by decide) PySem.F.isExc_ValueError PySem.F.notTuple_ValueError (by rw [isSubtype_type]; kernel_rfl) ?_); intro _ _ _ _ _ _ _ _; k_steps)
    exact hret _ _ _ _ _ _ (by assumption) (by assumption) (by assumption) ⟨Keeps.refl _, by simp [ints5, n1, n3, n4]⟩
  | some hh =>
  refine wpC_of (KIN.call_text n4 (Nat.le_trans s4.1 (by decide)) ?_)
  k_steps
  dsimp only
  (refine execs_consC (Assign_NameC (Call_C ?_)); k_steps; refine callWith_type1C ?_; k_steps)
  cases n5 : PySem.intText? tmm with
  | none =>
    refine call_int_bad rfl (Nat.le_trans s5.1 (by decide)) n5 s5.2 ?_
    (intro _ _ _ _; (try dsimp only); (refine caught_here (by assumption) (by k_asm) (by k_asm) (by k_asm) (by assumption) (by assumption) (by k_is) PyProof.Rows.Boot.«ValueError» (by decide) PySem.F.isExc_ValueError PySem.F.notTuple_ValueError (by rw [isSubtype_type]; kernel_rfl) ?_); intro _ _ _ _ _ _ _ _; k_steps)
    exact hret _ _ _ _ _ _ (by assumption) (by assumption) (by assumption) ⟨Keeps.refl _, by simp [ints5, n1, n3, n4, n5]⟩
  | some mi =>
  refine wpC_of (KIN.call_text n5 (Nat.le_trans s5.1 (by decide)) ?_)
  k_steps
  dsimp only
  rcases s6 with ⟨x6, t6, rfl, e6, s6⟩ | ⟨i6, t6, rfl, e6⟩
  · (refine execs_consC (Assign_NameC (Call_C ?_)); k_steps; refine callWith_type1C ?_; k_steps)
    cases n6 : PySem.intText? x6 with
    | none =>
      refine call_int_bad rfl (Nat.le_trans s6.1 (by decide)) n6 s6.2 ?_
      (intro _ _ _ _; (try dsimp only); (refine caught_here (by assumption) (by k_asm) (by k_asm) (by k_asm) (by assumption) (by assumption) (by k_is) PyProof.Rows.Boot.«ValueError» (by decide) PySem.F.isExc_ValueError PySem.F.notTuple_ValueError (by rw [isSubtype_type]; kernel_rfl) ?_); intro _ _ _ _ _ _ _ _; k_steps)
      exact hret _ _ _ _ _ _ (by assumption) (by assumption) (by assumption) ⟨Keeps.refl _, by simp [ints5, n1, n3, n4, n5, e6, n6]⟩
    | some sc =>
    refine wpC_of (KIN.call_text n6 (Nat.le_trans s6.1 (by decide)) ?_)
    k_steps
    refine execs_nilC ?_
    dsimp only
    k_steps
    dsimp only
    refine' @RunsC.use w 31 23 _ _ _ _ _ _ _ _ _ _ _ _ _ _ _ _ _ _ _ _ _ _ _ _ _ _ _ _ _ _ _ _ _ _ _ _ _ _ _ (by k_asm) (by k_asm) (by assumption) (by assumption) (by assumption) (by assumption) (by assumption) (by assumption) (by k_is) (by rfl)
      (p23 w _ _ _ _ _ _ _ _ _ _ _ _ _ _ _ _ (by first | rfl | assumption) (by first | rfl | assumption) (by first | rfl | assumption) (by first | rfl | assumption) (by first | rfl | assumption) (by first | rfl | assumption) (by first | rfl | assumption) s7.1 s7.2.1 s7.2.2) ?_
    intro v nw' m' h' tk' g' Tn F N r
    refine hret v nw' m' h' tk' g' Tn F N (ParseR.congr r ?_)
    simp [ints5, n1, n3, n4, n5, e6, n6]
  · (refine execs_consC (Assign_NameC (Call_C ?_)); k_steps; refine callWith_type1C ?_; k_steps)
    refine wpC_of ?_
    k_steps
    refine execs_nilC ?_
    dsimp only
    k_steps
    dsimp only
    refine' @RunsC.use w 31 23 _ _ _ _ _ _ _ _ _ _ _ _ _ _ _ _ _ _ _ _ _ _ _ _ _ _ _ _ _ _ _ _ _ _ _ _ _ _ _ (by k_asm) (by k_asm) (by assumption) (by assumption) (by assumption) (by assumption) (by assumption) (by assumption) (by k_is) (by rfl)
      (p23 w _ _ _ _ _ _ _ _ _ _ _ _ _ _ _ _ (by first | rfl | assumption) (by first | rfl | assumption) (by first | rfl | assumption) (by first | rfl | assumption) (by first | rfl | assumption) (by first | rfl | assumption) (by first | rfl | assumption) s7.1 s7.2.1 s7.2.2) ?_
    intro v nw' m' h' tk' g' Tn F N r
    refine hret v nw' m' h' tk' g' Tn F N (ParseR.congr r ?_)
    simp [ints5, n1, n3, n4, n5, e6]
end
local macro_rules | `(tactic| walk_at "exec Assign") => `(tactic| ((with_reducible show wpAny _ _ (exec (PySem.Stmt.Assign [PySem.Expr.List _ _] _ _) _) _ _ _); refine Assign_ListT ?_))
section
theorem reset5 : True := by
  k_with_none
  w_top off
  trivial
set_option maxRecDepth 100000
set_option maxHeartbeats 8000000

inductive Sec where
  | s (x : Str)
  | i
noncomputable def secOf : Sec → Option Int
  | .s x => PySem.intText? x
  | .i => some 0
/-- hours, minutes, seconds as texts -/
noncomputable def timeOf (tm : Str) : Option (Str × Str × Sec) := match Txt.split tm (Str.ofString ":") with
  | [a, b] => some (a, b, .s (Str.ofString "0"))
  | [a, b, c] => some (a, b, .s c)
  | [a] => if Txt.contains a (Str.ofString ".") = true then (match Txt.split a (Str.ofString ".") with
    | [x, y] => some (x, y, .i)
    | [x, y, z] => some (x, y, .s z)
    | _ => none) else none
  | _ => none
noncomputable def clock5 (yy dd tm : Str) (mm : Int) (tz : Str) : Option PRes := match timeOf tm with
  | none => none
  | some (a, b, c) => ints5 yy dd a b (secOf c) mm tz
/-- a text that may be the time -/
noncomputable def St (tm : Str) : Prop := tm.length ≤ 200 ∧ ∀ x ∈ Txt.split tm (Str.ofString ":"), Sm x ∧ ∀ y ∈ Txt.split x (Str.ofString "."), Sm y
theorem sm_zero : Sm (Str.ofString "0") := by
  refine ⟨by decide +kernel, ?_⟩
  rw [sizeLine_eq]
  refine Nat.le_trans (StrLaws.reprText_len _ ?_) ?_ <;> decide +kernel

theorem p20 (w : World) (m : Str → Option Value) (news : List (Addr × Obj)) (mm : Int) (yy dd tm tz : Str) (t1 t2 t3 t4 t7 : Tok)
  (h1 : m (Str.ofString "yy") = some (.str yy t1)) (h2 : m (Str.ofString "mm") = some (.int mm t2)) (h3 : m (Str.ofString "dd") = some (.str dd t3))
  (h4 : m (Str.ofString "tm") = some (.str tm t4)) (h7 : m (Str.ofString "tz") = some (.str tz t7))
  (s1 : Sm yy) (s3 : Sm dd) (s4 : St tm) (s7 : Sz tz) :
   RunsC w 31 20 m news 1 (ParseR (clock5 yy dd tm mm tz) news) := by
  ((k_dflt (refine' RunsC.intro ?ho ?hb ?_; (case ho => k_is); (case hb => rfl))); intro _ _ _ _ _ _ _ _ _ _ _ _ _ _ _ _ _ _ _ _ _ _ _ _ _ _ _ _ _)
  intro hret
  have hlen : tm.length ≤ 200 := s4.1
  refine execs_consV fun Q1 n1 r1 => wpC_of ?_
  k_steps
  refine n1 _ ?_
  clear n1 r1 Q1
  dsimp only
  rename List (Str × Tok) => l
  rename List.map _ l = _ => hsp
  refine execs_consV fun Q1 n1 r1 => ?_
  by_cases hq : l.length ≤ 3
  · rcases l with _ | ⟨⟨a, ta⟩, _ | ⟨⟨b, tb⟩, _ | ⟨⟨c, tc⟩, _ | ⟨q4, r⟩⟩⟩⟩ <;> dsimp only [strValues, List.map] at *
    · refine wpC_of ?_
      k_steps
      refine r1 _ _ ?_
      exact hret _ _ _ _ _ _ .refl (by assumption) (by assumption) ⟨Keeps.cons (Keeps.refl _), by simp [clock5, timeOf, ← hsp]⟩
    · have sa : a.length ≤ 200 := (s4.2 a (by rw [← hsp]; exact .head _)).1.1
      refine If_C (wpC_of ?_)
      k_steps
      refine execs_consV fun Q2 n2 r2 => If_C (wpC_of ?_)
      k_steps
      refine execs_consV fun Q3 n3 r3 => If_C (wpC_of ?_)
      k_steps
      · refine wpC_of ?_
        k_steps
        have hdot : Txt.contains a (Str.ofString ".") = false := by
          unfold Txt.contains
          rw [show (Builtin.Str.occurrences a (Str.ofString ".") 0 a.length 1).isEmpty = true from by assumption]
          rfl
        refine r3 _ _ (r2 _ _ (r1 _ _ ?_))
        exact hret _ _ _ _ _ _ .refl (by assumption) (by assumption) ⟨Keeps.cons (Keeps.refl _), by simp [clock5, timeOf, ← hsp, hdot]⟩
      · have hdot : Txt.contains a (Str.ofString ".") = true := by
          unfold Txt.contains
          rw [show (Builtin.Str.occurrences a (Str.ofString ".") 0 a.length 1).isEmpty = false from by assumption]
          rfl
        refine execs_consV fun Q4 n4 r4 => wpC_of ?_
        k_steps
        refine n4 _ ?_
        clear n4 r4 Q4
        dsimp only
        rename List (Str × Tok) => l2
        rename List.map _ l2 = _ => hsp2
        have sb : ∀ y ∈ Txt.split a (Str.ofString "."), Sm y := (s4.2 a (by rw [← hsp]; exact .head _)).2
        refine execs_consV fun Q5 n5 r5 => ?_
        by_cases hq2 : l2.length ≤ 3
        · rcases l2 with _ | ⟨⟨b, tb⟩, _ | ⟨⟨c, tc⟩, _ | ⟨⟨d, td⟩, _ | ⟨q4, r⟩⟩⟩⟩ <;> dsimp only [strValues, List.map] at *
          · refine wpC_of ?_
            k_steps
            refine r5 _ _ (r3 _ _ (r2 _ _ (r1 _ _ ?_)))
            exact hret _ _ _ _ _ _ .refl (by assumption) (by assumption) ⟨Keeps.cons (Keeps.cons (Keeps.refl _)), by simp [clock5, timeOf, ← hsp, hdot, ← hsp2]⟩
          · refine wpC_of ?_
            k_steps
            refine r5 _ _ (r3 _ _ (r2 _ _ (r1 _ _ ?_)))
            exact hret _ _ _ _ _ _ .refl (by assumption) (by assumption) ⟨Keeps.cons (Keeps.cons (Keeps.refl _)), by simp [clock5, timeOf, ← hsp, hdot, ← hsp2]⟩
          · refine wpC_of ?_
            k_steps
            refine n5 _ (execs_nilC (n3 _ (execs_nilC (n2 _ (execs_nilC (n1 _ ?_))))))
            refine' @RunsC.use w 31 22 _ _ _ _ _ _ _ _ _ _ _ _ _ _ _ _ _ _ _ _ _ _ _ _ _ _ _ _ _ _ _ _ _ _ _ _ _ _ _ (by k_asm) (by k_asm) (by assumption) (by assumption) (by assumption) (by assumption) (by assumption) (by assumption) (by k_is) (by rfl)
              (p22 w _ _ _ _ _ _ _ _ _ _ _ _ _ _ _ _ (by first | rfl | assumption) (by first | rfl | assumption) (by first | rfl | assumption) (by first | rfl | assumption) (by first | rfl | assumption) (by first | rfl | assumption) (by first | rfl | assumption) s1 s3 (sb _ (by rw [← hsp2]; exact .head _)) (sb _ (by rw [← hsp2]; exact .tail _ (.head _))) (.inr ⟨_, _, rfl, rfl⟩) s7) ?_
            intro v nw' m' h' tk' g' Tn F N r
            refine hret v nw' m' h' tk' g' Tn F N (ParseR.congr (ParseR.mono (by exact Keeps.cons (Keeps.cons (Keeps.refl _))) r) ?_)
            simp [clock5, timeOf, ← hsp, hdot, ← hsp2, secOf]
          · refine wpC_of ?_
            k_steps
            refine n5 _ (execs_nilC (n3 _ (execs_nilC (n2 _ (execs_nilC (n1 _ ?_))))))
            refine' @RunsC.use w 31 22 _ _ _ _ _ _ _ _ _ _ _ _ _ _ _ _ _ _ _ _ _ _ _ _ _ _ _ _ _ _ _ _ _ _ _ _ _ _ _ (by k_asm) (by k_asm) (by assumption) (by assumption) (by assumption) (by assumption) (by assumption) (by assumption) (by k_is) (by rfl)
              (p22 w _ _ _ _ _ _ _ _ _ _ _ _ _ _ _ _ (by first | rfl | assumption) (by first | rfl | assumption) (by first | rfl | assumption) (by first | rfl | assumption) (by first | rfl | assumption) (by first | rfl | assumption) (by first | rfl | assumption) s1 s3 (sb _ (by rw [← hsp2]; exact .head _)) (sb _ (by rw [← hsp2]; exact .tail _ (.head _))) (.inl ⟨_, _, rfl, rfl, sb _ (by rw [← hsp2]; exact .tail _ (.tail _ (.head _)))⟩) s7) ?_
            intro v nw' m' h' tk' g' Tn F N r
            refine hret v nw' m' h' tk' g' Tn F N (ParseR.congr (ParseR.mono (by exact Keeps.cons (Keeps.cons (Keeps.refl _))) r) ?_)
            simp [clock5, timeOf, ← hsp, hdot, ← hsp2, secOf]
          · exact absurd hq2 (by simp only [List.length_cons]; omega)
        · have hno : timeOf tm = none := by
            unfold timeOf
            rw [← hsp]
            dsimp only
            rw [if_pos hdot, ← hsp2]
            rcases l2 with _ | ⟨b, _ | ⟨c, _ | ⟨d, _ | ⟨q4, r⟩⟩⟩⟩ <;> first | rfl | exact absurd (by simp) hq2
          refine wpC_of ?_
          k_steps
          all_goals first
            | (exfalso; omega)
            | (refine r5 _ _ (r3 _ _ (r2 _ _ (r1 _ _ ?_)))
               exact hret _ _ _ _ _ _ .refl (by assumption) (by assumption) ⟨Keeps.cons (Keeps.cons (Keeps.refl _)), by simp [clock5, hno]⟩)
    · refine wpC_of ?_
      k_steps
      refine n1 _ ?_
      refine' @RunsC.use w 31 22 _ _ _ _ _ _ _ _ _ _ _ _ _ _ _ _ _ _ _ _ _ _ _ _ _ _ _ _ _ _ _ _ _ _ _ _ _ _ _ (by k_asm) (by k_asm) (by assumption) (by assumption) (by assumption) (by assumption) (by assumption) (by assumption) (by k_is) (by rfl)
        (p22 w _ _ _ _ _ _ _ _ _ _ _ _ _ _ _ _ (by first | rfl | assumption) (by first | rfl | assumption) (by first | rfl | assumption) (by first | rfl | assumption) (by first | rfl | assumption) (by first | rfl | assumption) (by first | rfl | assumption) s1 s3 (s4.2 _ (by rw [← hsp]; exact .head _)).1 (s4.2 _ (by rw [← hsp]; exact .tail _ (.head _))).1 (.inl ⟨_, _, rfl, rfl, sm_zero⟩) s7) ?_
      intro v nw' m' h' tk' g' Tn F N r
      refine hret v nw' m' h' tk' g' Tn F N (ParseR.congr (ParseR.mono (by first | exact Keeps.cons (Keeps.refl _) | exact Keeps.cons (Keeps.cons (Keeps.refl _))) r) ?_)
      simp [clock5, timeOf, ← hsp, secOf]
    · refine wpC_of ?_
      k_steps
      refine n1 _ ?_
      refine' @RunsC.use w 31 22 _ _ _ _ _ _ _ _ _ _ _ _ _ _ _ _ _ _ _ _ _ _ _ _ _ _ _ _ _ _ _ _ _ _ _ _ _ _ _ (by k_asm) (by k_asm) (by assumption) (by assumption) (by assumption) (by assumption) (by assumption) (by assumption) (by k_is) (by rfl)
        (p22 w _ _ _ _ _ _ _ _ _ _ _ _ _ _ _ _ (by first | rfl | assumption) (by first | rfl | assumption) (by first | rfl | assumption) (by first | rfl | assumption) (by first | rfl | assumption) (by first | rfl | assumption) (by first | rfl | assumption) s1 s3 (s4.2 _ (by rw [← hsp]; exact .head _)).1 (s4.2 _ (by rw [← hsp]; exact .tail _ (.head _))).1 (.inl ⟨_, _, rfl, rfl, (s4.2 _ (by rw [← hsp]; exact .tail _ (.tail _ (.head _)))).1⟩) s7) ?_
      intro v nw' m' h' tk' g' Tn F N r
      refine hret v nw' m' h' tk' g' Tn F N (ParseR.congr (ParseR.mono (by first | exact Keeps.cons (Keeps.refl _) | exact Keeps.cons (Keeps.cons (Keeps.refl _))) r) ?_)
      simp [clock5, timeOf, ← hsp, secOf]
    · exact absurd hq (by simp only [List.length_cons]; omega)
  · have hno : timeOf tm = none := by
      unfold timeOf
      rw [← hsp]
      rcases l with _ | ⟨a, _ | ⟨b, _ | ⟨c, _ | ⟨q4, r⟩⟩⟩⟩ <;> first | rfl | exact absurd (by simp) hq
    refine wpC_of ?_
    k_steps
    all_goals first
      | (exfalso; omega)
      | (refine r1 _ _ ?_
         exact hret _ _ _ _ _ _ .refl (by assumption) (by assumption) ⟨Keeps.cons (Keeps.refl _), by simp [clock5, hno]⟩)
end
section
theorem reset6 : True := by
  k_with_none
  w_top off
  trivial
set_option maxRecDepth 100000
set_option maxHeartbeats 8000000

/-- a word as the law's texts have them -/
noncomputable def Ok (x : Str) : Prop := x.length ≤ 90 ∧ Asc x
theorem Ok.sm {x : Str} (h : Ok x) : Sm x := by
  refine ⟨Nat.le_trans h.1 (by decide), ?_⟩
  rw [sizeLine_eq]
  have := StrLaws.reprText_len x fun c hc => Nat.lt_trans (h.2 c hc) (by decide)
  have := h.1
  omega
theorem Ok.upper {x : Str} (h : Ok x) : Ok (Txt.upper x) := ⟨by rw [len_upper h.2]; exact h.1, asc_upper h.2⟩
theorem Ok.lower {x : Str} (h : Ok x) : Ok (Txt.lower x) := ⟨by rw [len_lower h.2]; exact h.1, asc_lower h.2⟩
theorem Ok.slice {x : Str} (h : Ok x) (l u : Option Int) : Ok (Txt.slice x l u) := ⟨Nat.le_trans (Txt.slice_le x l u) h.1, asc_slice h.2 l u⟩
theorem Ok.split {x : Str} (h : Ok x) (y : Str) : ∀ p ∈ Txt.split x y, Ok p := fun p hp => ⟨Nat.le_trans (len_split p hp) h.1, asc_split h.2 p hp⟩
noncomputable def Bd (o : Option Int) : Prop := ∀ i, o = some i → i.natAbs < 10 ^ 100
theorem Bd.ite {c : Prop} [Decidable c] {a b : Option Int} (ha : Bd a) (hb : Bd b) : Bd (if c then a else b) := by split <;> assumption
theorem tzOf_bound {x : Str} (h : x.length ≤ 90) : Bd (tzOf x) := by
  unfold tzOf
  iterate 14 refine Bd.ite (fun i e => by cases e; decide) ?_
  intro i e
  unfold tzInt at e
  cases hj : PySem.intText? x with
  | none => rw [hj] at e; cases e
  | some j =>
    rw [hj] at e
    dsimp only at e
    by_cases hc : j = 0 ∧ Txt.startswith x (Str.ofString "-") = true
    · rw [if_pos hc] at e; cases e
    · rw [if_neg hc] at e
      cases e
      exact Nat.lt_of_lt_of_le (intText_bound hj) (Nat.pow_le_pow_right (by decide) (by omega))
theorem Ok.sz {x : Str} (h : Ok x) : Sz x := ⟨Nat.le_trans h.1 (by decide), h.upper.sm.2, tzOf_bound h.upper.1⟩
theorem Ok.st {x : Str} (h : Ok x) : St x := ⟨Nat.le_trans h.1 (by decide), fun y hy => ⟨(h.split _ y hy).sm, fun z hz => ((h.split _ y hy).split _ z hz).sm⟩⟩

/-- a comma at the end goes -/
noncomputable def chop (x : Str) : Str := if (Txt.item x (-1) == Str.ofString ",") = true then Txt.slice x none (some (-1)) else x
theorem Ok.chop {x : Str} (h : Ok x) : Ok (chop x) := by
  unfold Mine.chop
  split
  · exact h.slice _ _
  · exact h

noncomputable def f19 (yy dd tm : Str) (mm : Int) (tz : Str) : Option PRes := clock5 yy dd (chop tm) mm tz
noncomputable def f18 (yy dd tm : Str) (mm : Int) (tz : Str) : Option PRes := if Txt.isdigit (Txt.item yy 0) = true then f19 yy dd tm mm tz else f19 tz dd tm mm yy
noncomputable def f17 (yy dd tm : Str) (mm : Int) (tz : Str) : Option PRes :=
  if (Txt.item yy (-1) == Str.ofString ",") = true then (if (Txt.slice yy none (some (-1))).length = 0 then none else f18 (Txt.slice yy none (some (-1))) dd tm mm tz) else f18 yy dd tm mm tz
noncomputable def f16 (yy dd tm : Str) (mm : Int) (tz : Str) : Option PRes := if 0 < Txt.find yy (Str.ofString ":") then f17 tm dd yy mm tz else f17 yy dd tm mm tz
noncomputable def f14 (yy dd tm : Str) (mm : Int) (tz : Str) : Option PRes := f16 yy (chop dd) tm mm tz

theorem p19 (w : World) (m : Str → Option Value) (news : List (Addr × Obj)) (mm : Int) (yy dd tm tz : Str) (t1 t2 t3 t4 t7 : Tok)
  (h1 : m (Str.ofString "yy") = some (.str yy t1)) (h2 : m (Str.ofString "mm") = some (.int mm t2)) (h3 : m (Str.ofString "dd") = some (.str dd t3))
  (h4 : m (Str.ofString "tm") = some (.str tm t4)) (h7 : m (Str.ofString "tz") = some (.str tz t7))
  (s1 : Ok yy) (s3 : Ok dd) (s4 : Ok tm) (s7 : Ok tz) (hne : 0 < tm.length) :
   RunsC w 31 19 m news 1 (ParseR (f19 yy dd tm mm tz) news) := by
  ((k_dflt (refine' RunsC.intro ?ho ?hb ?_; (case ho => k_is); (case hb => rfl))); intro _ _ _ _ _ _ _ _ _ _ _ _ _ _ _ _ _ _ _ _ _ _ _ _ _ _ _ _ _)
  intro hret
  have hlen : tm.length ≤ 90 := s4.1
  refine execs_consC (wpC_of ?_)
  k_steps
  · dsimp only
    refine' @RunsC.use w 31 20 _ _ _ _ _ _ _ _ _ _ _ _ _ _ _ _ _ _ _ _ _ _ _ _ _ _ _ _ _ _ _ _ _ _ _ _ _ _ _ (by k_asm) (by k_asm) (by assumption) (by assumption) (by assumption) (by assumption) (by assumption) (by assumption) (by k_is) (by rfl)
      (p20 w _ _ _ _ _ _ _ _ _ _ _ _ (by first | rfl | assumption) (by first | rfl | assumption) (by first | rfl | assumption) (by first | rfl | assumption) (by first | rfl | assumption) s1.sm s3.sm (s4.slice _ _).st s7.sz) ?_
    intro v nw' m' h' tk' g' Tn F N r
    refine hret v nw' m' h' tk' g' Tn F N (ParseR.congr (ParseR.mono (by first | exact Keeps.refl _ | exact Keeps.cons (Keeps.refl _)) r) ?_)
    simp_all [f19, chop]
  · dsimp only
    refine' @RunsC.use w 31 20 _ _ _ _ _ _ _ _ _ _ _ _ _ _ _ _ _ _ _ _ _ _ _ _ _ _ _ _ _ _ _ _ _ _ _ _ _ _ _ (by k_asm) (by k_asm) (by assumption) (by assumption) (by assumption) (by assumption) (by assumption) (by assumption) (by k_is) (by rfl)
      (p20 w _ _ _ _ _ _ _ _ _ _ _ _ (by first | rfl | assumption) (by first | rfl | assumption) (by first | rfl | assumption) (by first | rfl | assumption) (by first | rfl | assumption) s1.sm s3.sm s4.st s7.sz) ?_
    intro v nw' m' h' tk' g' Tn F N r
    refine hret v nw' m' h' tk' g' Tn F N (ParseR.congr (ParseR.mono (by first | exact Keeps.refl _ | exact Keeps.cons (Keeps.refl _)) r) ?_)
    simp_all [f19, chop]

theorem p18 (w : World) (m : Str → Option Value) (news : List (Addr × Obj)) (mm : Int) (yy dd tm tz : Str) (t1 t2 t3 t4 t7 : Tok)
  (h1 : m (Str.ofString "yy") = some (.str yy t1)) (h2 : m (Str.ofString "mm") = some (.int mm t2)) (h3 : m (Str.ofString "dd") = some (.str dd t3))
  (h4 : m (Str.ofString "tm") = some (.str tm t4)) (h7 : m (Str.ofString "tz") = some (.str tz t7))
  (s1 : Ok yy) (s3 : Ok dd) (s4 : Ok tm) (s7 : Ok tz) (hne : 0 < tm.length) (hy : 0 < yy.length) :
   RunsC w 31 18 m news 1 (ParseR (f18 yy dd tm mm tz) news) := by
  ((k_dflt (refine' RunsC.intro ?ho ?hb ?_; (case ho => k_is); (case hb => rfl))); intro _ _ _ _ _ _ _ _ _ _ _ _ _ _ _ _ _ _ _ _ _ _ _ _ _ _ _ _ _)
  intro hret
  refine execs_consC (wpC_of ?_)
  k_steps
  · dsimp only
    refine' @RunsC.use w 31 19 _ _ _ _ _ _ _ _ _ _ _ _ _ _ _ _ _ _ _ _ _ _ _ _ _ _ _ _ _ _ _ _ _ _ _ _ _ _ _ (by k_asm) (by k_asm) (by assumption) (by assumption) (by assumption) (by assumption) (by assumption) (by assumption) (by k_is) (by rfl)
      (p19 w _ _ _ _ _ _ _ _ _ _ _ _ (by first | rfl | assumption) (by first | rfl | assumption) (by first | rfl | assumption) (by first | rfl | assumption) (by first | rfl | assumption) s1 s3 s4 s7 hne) ?_
    intro v nw' m' h' tk' g' Tn F N r
    refine hret v nw' m' h' tk' g' Tn F N (ParseR.congr (ParseR.mono (by first | exact Keeps.refl _ | exact Keeps.cons (Keeps.refl _)) r) ?_)
    simp_all [f18]
  · dsimp only
    refine' @RunsC.use w 31 19 _ _ _ _ _ _ _ _ _ _ _ _ _ _ _ _ _ _ _ _ _ _ _ _ _ _ _ _ _ _ _ _ _ _ _ _ _ _ _ (by k_asm) (by k_asm) (by assumption) (by assumption) (by assumption) (by assumption) (by assumption) (by assumption) (by k_is) (by rfl)
      (p19 w _ _ _ _ _ _ _ _ _ _ _ _ (by first | rfl | assumption) (by first | rfl | assumption) (by first | rfl | assumption) (by first | rfl | assumption) (by first | rfl | assumption) s7 s3 s4 s1 hne) ?_
    intro v nw' m' h' tk' g' Tn F N r
    refine hret v nw' m' h' tk' g' Tn F N (ParseR.congr (ParseR.mono (by first | exact Keeps.refl _ | exact Keeps.cons (Keeps.refl _)) r) ?_)
    simp_all [f18]

theorem p17 (w : World) (m : Str → Option Value) (news : List (Addr × Obj)) (mm : Int) (yy dd tm tz : Str) (t1 t2 t3 t4 t7 : Tok)
  (h1 : m (Str.ofString "yy") = some (.str yy t1)) (h2 : m (Str.ofString "mm") = some (.int mm t2)) (h3 : m (Str.ofString "dd") = some (.str dd t3))
  (h4 : m (Str.ofString "tm") = some (.str tm t4)) (h7 : m (Str.ofString "tz") = some (.str tz t7))
  (s1 : Ok yy) (s3 : Ok dd) (s4 : Ok tm) (s7 : Ok tz) (hne : 0 < tm.length) (hy : 0 < yy.length) :
   RunsC w 31 17 m news 1 (ParseR (f17 yy dd tm mm tz) news) := by
  ((k_dflt (refine' RunsC.intro ?ho ?hb ?_; (case ho => k_is); (case hb => rfl))); intro _ _ _ _ _ _ _ _ _ _ _ _ _ _ _ _ _ _ _ _ _ _ _ _ _ _ _ _ _)
  intro hret
  have hlen : yy.length ≤ 90 := s1.1
  refine execs_consC (wpC_of ?_)
  k_steps
  · dsimp only
    refine' @RunsC.use w 31 18 _ _ _ _ _ _ _ _ _ _ _ _ _ _ _ _ _ _ _ _ _ _ _ _ _ _ _ _ _ _ _ _ _ _ _ _ _ _ _ (by k_asm) (by k_asm) (by assumption) (by assumption) (by assumption) (by assumption) (by assumption) (by assumption) (by k_is) (by rfl)
      (p18 w _ _ _ _ _ _ _ _ _ _ _ _ (by first | rfl | assumption) (by first | rfl | assumption) (by first | rfl | assumption) (by first | rfl | assumption) (by first | rfl | assumption) (s1.slice _ _) s3 s4 s7 hne (by omega)) ?_
    intro v nw' m' h' tk' g' Tn F N r
    refine hret v nw' m' h' tk' g' Tn F N (ParseR.congr (ParseR.mono (by first | exact Keeps.refl _ | exact Keeps.cons (Keeps.refl _)) r) ?_)
    unfold f17
    rw [if_pos (by assumption), if_neg (by omega)]
  · exact hret _ _ _ _ _ _ .refl (by assumption) (by assumption) ⟨Keeps.refl _, by
      unfold f17
      rw [if_pos (by assumption), if_pos (by omega)]⟩
  · dsimp only
    refine' @RunsC.use w 31 18 _ _ _ _ _ _ _ _ _ _ _ _ _ _ _ _ _ _ _ _ _ _ _ _ _ _ _ _ _ _ _ _ _ _ _ _ _ _ _ (by k_asm) (by k_asm) (by assumption) (by assumption) (by assumption) (by assumption) (by assumption) (by assumption) (by k_is) (by rfl)
      (p18 w _ _ _ _ _ _ _ _ _ _ _ _ (by first | rfl | assumption) (by first | rfl | assumption) (by first | rfl | assumption) (by first | rfl | assumption) (by first | rfl | assumption) s1 s3 s4 s7 hne hy) ?_
    intro v nw' m' h' tk' g' Tn F N r
    refine hret v nw' m' h' tk' g' Tn F N (ParseR.congr (ParseR.mono (by first | exact Keeps.refl _ | exact Keeps.cons (Keeps.refl _)) r) ?_)
    simp_all [f17]

theorem p16 (w : World) (m : Str → Option Value) (news : List (Addr × Obj)) (mm : Int) (yy dd tm tz : Str) (t1 t2 t3 t4 t7 : Tok)
  (h1 : m (Str.ofString "yy") = some (.str yy t1)) (h2 : m (Str.ofString "mm") = some (.int mm t2)) (h3 : m (Str.ofString "dd") = some (.str dd t3))
  (h4 : m (Str.ofString "tm") = some (.str tm t4)) (h7 : m (Str.ofString "tz") = some (.str tz t7))
  (ti : Tok) (h8 : m (Str.ofString "i") = some (.int (Txt.find yy (Str.ofString ":")) ti)) (s1 : Ok yy) (s3 : Ok dd) (s4 : Ok tm) (s7 : Ok tz) (hne : 0 < tm.length) (hy : 0 < yy.length) :
   RunsC w 31 16 m news 1 (ParseR (f16 yy dd tm mm tz) news) := by
  ((k_dflt (refine' RunsC.intro ?ho ?hb ?_; (case ho => k_is); (case hb => rfl))); intro _ _ _ _ _ _ _ _ _ _ _ _ _ _ _ _ _ _ _ _ _ _ _ _ _ _ _ _ _)
  intro hret
  refine execs_consC (wpC_of ?_)
  k_steps
  · dsimp only
    refine' @RunsC.use w 31 17 _ _ _ _ _ _ _ _ _ _ _ _ _ _ _ _ _ _ _ _ _ _ _ _ _ _ _ _ _ _ _ _ _ _ _ _ _ _ _ (by k_asm) (by k_asm) (by assumption) (by assumption) (by assumption) (by assumption) (by assumption) (by assumption) (by k_is) (by rfl)
      (p17 w _ _ _ _ _ _ _ _ _ _ _ _ (by first | rfl | assumption) (by first | rfl | assumption) (by first | rfl | assumption) (by first | rfl | assumption) (by first | rfl | assumption) s4 s3 s1 s7 hy hne) ?_
    intro v nw' m' h' tk' g' Tn F N r
    refine hret v nw' m' h' tk' g' Tn F N (ParseR.congr (ParseR.mono (by first | exact Keeps.refl _ | exact Keeps.cons (Keeps.refl _)) r) ?_)
    unfold f16
    rw [if_pos (by assumption)]
  · dsimp only
    refine' @RunsC.use w 31 17 _ _ _ _ _ _ _ _ _ _ _ _ _ _ _ _ _ _ _ _ _ _ _ _ _ _ _ _ _ _ _ _ _ _ _ _ _ _ _ (by k_asm) (by k_asm) (by assumption) (by assumption) (by assumption) (by assumption) (by assumption) (by assumption) (by k_is) (by rfl)
      (p17 w _ _ _ _ _ _ _ _ _ _ _ _ (by first | rfl | assumption) (by first | rfl | assumption) (by first | rfl | assumption) (by first | rfl | assumption) (by first | rfl | assumption) s1 s3 s4 s7 hne hy) ?_
    intro v nw' m' h' tk' g' Tn F N r
    refine hret v nw' m' h' tk' g' Tn F N (ParseR.congr (ParseR.mono (by first | exact Keeps.refl _ | exact Keeps.cons (Keeps.refl _)) r) ?_)
    unfold f16
    rw [if_neg (by assumption)]
theorem p14 (w : World) (m : Str → Option Value) (news : List (Addr × Obj)) (mm : Int) (yy dd tm tz : Str) (t1 t2 t3 t4 t7 : Tok)
  (h1 : m (Str.ofString "yy") = some (.str yy t1)) (h2 : m (Str.ofString "mm") = some (.int mm t2)) (h3 : m (Str.ofString "dd") = some (.str dd t3))
  (h4 : m (Str.ofString "tm") = some (.str tm t4)) (h7 : m (Str.ofString "tz") = some (.str tz t7))
  (s1 : Ok yy) (s3 : Ok dd) (s4 : Ok tm) (s7 : Ok tz) (hne : 0 < tm.length) (hy : 0 < yy.length) (hd0 : 0 < dd.length) :
   RunsC w 31 14 m news 1 (ParseR (f14 yy dd tm mm tz) news) := by
  ((k_dflt (refine' RunsC.intro ?ho ?hb ?_; (case ho => k_is); (case hb => rfl))); intro _ _ _ _ _ _ _ _ _ _ _ _ _ _ _ _ _ _ _ _ _ _ _ _ _ _ _ _ _)
  intro hret
  have hlen : dd.length ≤ 90 := s3.1
  refine execs_consC (wpC_of ?_)
  k_steps
  · dsimp only
    refine execs_consC (wpC_of ?_)
    k_steps
    dsimp only
    refine' @RunsC.use w 31 16 _ _ _ _ _ _ _ _ _ _ _ _ _ _ _ _ _ _ _ _ _ _ _ _ _ _ _ _ _ _ _ _ _ _ _ _ _ _ _ (by k_asm) (by k_asm) (by assumption) (by assumption) (by assumption) (by assumption) (by assumption) (by assumption) (by k_is) (by rfl)
      (p16 w _ _ _ _ _ _ _ _ _ _ _ _ (by first | rfl | assumption) (by first | rfl | assumption) (by first | rfl | assumption) (by first | rfl | assumption) (by first | rfl | assumption) _ (by first | rfl | assumption) s1 (s3.slice _ _) s4 s7 hne hy) ?_
    intro v nw' m' h' tk' g' Tn F N r
    refine hret v nw' m' h' tk' g' Tn F N (ParseR.congr (ParseR.mono (by first | exact Keeps.refl _ | exact Keeps.cons (Keeps.refl _)) r) ?_)
    simp_all [f14, chop]
  · dsimp only
    refine execs_consC (wpC_of ?_)
    k_steps
    dsimp only
    refine' @RunsC.use w 31 16 _ _ _ _ _ _ _ _ _ _ _ _ _ _ _ _ _ _ _ _ _ _ _ _ _ _ _ _ _ _ _ _ _ _ _ _ _ _ _ (by k_asm) (by k_asm) (by assumption) (by assumption) (by assumption) (by assumption) (by assumption) (by assumption) (by k_is) (by rfl)
      (p16 w _ _ _ _ _ _ _ _ _ _ _ _ (by first | rfl | assumption) (by first | rfl | assumption) (by first | rfl | assumption) (by first | rfl | assumption) (by first | rfl | assumption) _ (by first | rfl | assumption) s1 s3 s4 s7 hne hy) ?_
    intro v nw' m' h' tk' g' Tn F N r
    refine hret v nw' m' h' tk' g' Tn F N (ParseR.congr (ParseR.mono (by first | exact Keeps.refl _ | exact Keeps.cons (Keeps.refl _)) r) ?_)
    simp_all [f14, chop]
end
section
theorem reset7 : True := by
  k_with_none
  w_top off
  trivial
set_option maxRecDepth 100000
set_option maxHeartbeats 8000000

theorem index_strs {prog : Program} {w : World} {A : Around} {E : Value → Shared → Prop} {s : Shared} {D : Addr} {vs : List Value} {ys : List Str} {x : Str} {t : Tok} {j n : Nat} {Q : Value → Shared → Prop}
    (hg : s.heap.get? D = some { cls := .type "list", data := .seq vs.toArray n }) (hs : StrsAre vs ys) (e : ys.findIdx? (· == x) = some j) (hz : ys.length ≤ 1000)
    (h : Q (.int j s.toks) { s with toks := s.toks + 1 }) : wpAny (model prog w) A (call (.builtin "list.index") [.ref D, .str x t]) Q E s := by
  have hlen : vs.length = ys.length := hs.length
  obtain ⟨hj, hit, hno⟩ := List.findIdx?_eq_some_iff_getElem.mp e
  have at_ : ∀ i (hi : i < ys.length) (hi' : i < vs.length), isStrOf x vs[i] = (ys[i] == x) := by
    intro i hi hi'
    obtain ⟨u, hu⟩ := hs.get i ys[i] (by simp [hi])
    have : vs[i] = .str ys[i] u := by
      rw [List.getElem?_eq_getElem hi'] at hu
      exact Option.some.inj hu
    rw [this]; rfl
  refine call_meets PySem.F.slot_list_index ⟨_, hg, rfl⟩ PySem.F.entry_list_index (PySem.F.args_list_index_2 _ _)
    (MeetsSeq.list_index D vs.toArray n (.str x t) (isStrOf x) (fun y hy => eq_isStrOf x t hs y (by simpa using hy)) j (by simp; omega) (by omega) ?_ ?_) ⟨hg, h⟩
  · rw [List.getElem_toArray, at_ j hj (by omega)]; exact hit
  · intro i hi hlt
    rw [List.getElem_toArray, at_ i (by omega) (by simpa using hi)]
    exact Bool.eq_false_iff.mpr (by simpa using hno i hlt)

theorem method_top {prog : Program} {w : World} {A : Around} {E : Value → Shared → Prop} {s : Shared} {D : Addr} {vs : Array Value} {n : Nat} {pl : Sem Bool} {Q : Value × List Value → Shared → Prop}
    (hg : s.heap.get? D = some { cls := .type "list", data := .seq vs n }) (h : Q (.builtin "list.index", [.ref D]) s) : wpAny (model prog w) A (getMethod (.ref D) (Str.ofString "index") pl) Q E s :=
  getMethod_builtin ⟨_, hg, rfl⟩ PySem.F.plainAttrs_list PySem.F.slot_list_index PySem.F.type_list_index (fun a e => by cases e; exact ⟨_, hg, rfl⟩) h

noncomputable def monthYs : List Str := [⟨#[106, 97, 110]⟩, ⟨#[102, 101, 98]⟩, ⟨#[109, 97, 114]⟩, ⟨#[97, 112, 114]⟩, ⟨#[109, 97, 121]⟩, ⟨#[106, 117, 110]⟩, ⟨#[106, 117, 108]⟩, ⟨#[97, 117, 103]⟩, ⟨#[115, 101, 112]⟩, ⟨#[111, 99, 116]⟩, ⟨#[110, 111, 118]⟩, ⟨#[100, 101, 99]⟩, ⟨#[106, 97, 110, 117, 97, 114, 121]⟩, ⟨#[102, 101, 98, 114, 117, 97, 114, 121]⟩, ⟨#[109, 97, 114, 99, 104]⟩, ⟨#[97, 112, 114, 105, 108]⟩, ⟨#[109, 97, 121]⟩, ⟨#[106, 117, 110, 101]⟩, ⟨#[106, 117, 108, 121]⟩, ⟨#[97, 117, 103, 117, 115, 116]⟩, ⟨#[115, 101, 112, 116, 101, 109, 98, 101, 114]⟩, ⟨#[111, 99, 116, 111, 98, 101, 114]⟩, ⟨#[110, 111, 118, 101, 109, 98, 101, 114]⟩, ⟨#[100, 101, 99, 101, 109, 98, 101, 114]⟩]
noncomputable def monthIdx (x : Str) : Option Nat := monthYs.findIdx? (· == x)
theorem beq_dec (a b : Str) : (a == b) = decide (b = a) := by
  rw [Bool.eq_iff_iff, beq_iff_eq, decide_eq_true_eq]; exact eq_comm
theorem month_or (x : Str) : (decide (x = ⟨#[106, 97, 110]⟩) || (decide (x = ⟨#[102, 101, 98]⟩) || (decide (x = ⟨#[109, 97, 114]⟩) || (decide (x = ⟨#[97, 112, 114]⟩) || (decide (x = ⟨#[109, 97, 121]⟩) || (decide (x = ⟨#[106, 117, 110]⟩) || (decide (x = ⟨#[106, 117, 108]⟩) || (decide (x = ⟨#[97, 117, 103]⟩) || (decide (x = ⟨#[115, 101, 112]⟩) || (decide (x = ⟨#[111, 99, 116]⟩) || (decide (x = ⟨#[110, 111, 118]⟩) || (decide (x = ⟨#[100, 101, 99]⟩) || (decide (x = ⟨#[106, 97, 110, 117, 97, 114, 121]⟩) || (decide (x = ⟨#[102, 101, 98, 114, 117, 97, 114, 121]⟩) || (decide (x = ⟨#[109, 97, 114, 99, 104]⟩) || (decide (x = ⟨#[97, 112, 114, 105, 108]⟩) || (decide (x = ⟨#[109, 97, 121]⟩) || (decide (x = ⟨#[106, 117, 110, 101]⟩) || (decide (x = ⟨#[106, 117, 108, 121]⟩) || (decide (x = ⟨#[97, 117, 103, 117, 115, 116]⟩) || (decide (x = ⟨#[115, 101, 112, 116, 101, 109, 98, 101, 114]⟩) || (decide (x = ⟨#[111, 99, 116, 111, 98, 101, 114]⟩) || (decide (x = ⟨#[110, 111, 118, 101, 109, 98, 101, 114]⟩) || (decide (x = ⟨#[100, 101, 99, 101, 109, 98, 101, 114]⟩) || false)))))))))))))))))))))))) = monthYs.any (· == x) := by
  simp only [monthYs, List.any_cons, List.any_nil, beq_dec]
theorem month_yes {x : Str} (h : (decide (x = ⟨#[106, 97, 110]⟩) || (decide (x = ⟨#[102, 101, 98]⟩) || (decide (x = ⟨#[109, 97, 114]⟩) || (decide (x = ⟨#[97, 112, 114]⟩) || (decide (x = ⟨#[109, 97, 121]⟩) || (decide (x = ⟨#[106, 117, 110]⟩) || (decide (x = ⟨#[106, 117, 108]⟩) || (decide (x = ⟨#[97, 117, 103]⟩) || (decide (x = ⟨#[115, 101, 112]⟩) || (decide (x = ⟨#[111, 99, 116]⟩) || (decide (x = ⟨#[110, 111, 118]⟩) || (decide (x = ⟨#[100, 101, 99]⟩) || (decide (x = ⟨#[106, 97, 110, 117, 97, 114, 121]⟩) || (decide (x = ⟨#[102, 101, 98, 114, 117, 97, 114, 121]⟩) || (decide (x = ⟨#[109, 97, 114, 99, 104]⟩) || (decide (x = ⟨#[97, 112, 114, 105, 108]⟩) || (decide (x = ⟨#[109, 97, 121]⟩) || (decide (x = ⟨#[106, 117, 110, 101]⟩) || (decide (x = ⟨#[106, 117, 108, 121]⟩) || (decide (x = ⟨#[97, 117, 103, 117, 115, 116]⟩) || (decide (x = ⟨#[115, 101, 112, 116, 101, 109, 98, 101, 114]⟩) || (decide (x = ⟨#[111, 99, 116, 111, 98, 101, 114]⟩) || (decide (x = ⟨#[110, 111, 118, 101, 109, 98, 101, 114]⟩) || (decide (x = ⟨#[100, 101, 99, 101, 109, 98, 101, 114]⟩) || false)))))))))))))))))))))))) = true) : ∃ j, monthIdx x = some j := by
  rw [month_or] at h
  unfold monthIdx
  cases hf : monthYs.findIdx? (· == x) with
  | some j => exact ⟨j, rfl⟩
  | none =>
    rw [List.findIdx?_eq_none_iff] at hf
    obtain ⟨y, hy, e⟩ := List.any_eq_true.mp h
    rw [hf y hy] at e; cases e
theorem month_no {x : Str} (h : (decide (x = ⟨#[106, 97, 110]⟩) || (decide (x = ⟨#[102, 101, 98]⟩) || (decide (x = ⟨#[109, 97, 114]⟩) || (decide (x = ⟨#[97, 112, 114]⟩) || (decide (x = ⟨#[109, 97, 121]⟩) || (decide (x = ⟨#[106, 117, 110]⟩) || (decide (x = ⟨#[106, 117, 108]⟩) || (decide (x = ⟨#[97, 117, 103]⟩) || (decide (x = ⟨#[115, 101, 112]⟩) || (decide (x = ⟨#[111, 99, 116]⟩) || (decide (x = ⟨#[110, 111, 118]⟩) || (decide (x = ⟨#[100, 101, 99]⟩) || (decide (x = ⟨#[106, 97, 110, 117, 97, 114, 121]⟩) || (decide (x = ⟨#[102, 101, 98, 114, 117, 97, 114, 121]⟩) || (decide (x = ⟨#[109, 97, 114, 99, 104]⟩) || (decide (x = ⟨#[97, 112, 114, 105, 108]⟩) || (decide (x = ⟨#[109, 97, 121]⟩) || (decide (x = ⟨#[106, 117, 110, 101]⟩) || (decide (x = ⟨#[106, 117, 108, 121]⟩) || (decide (x = ⟨#[97, 117, 103, 117, 115, 116]⟩) || (decide (x = ⟨#[115, 101, 112, 116, 101, 109, 98, 101, 114]⟩) || (decide (x = ⟨#[111, 99, 116, 111, 98, 101, 114]⟩) || (decide (x = ⟨#[110, 111, 118, 101, 109, 98, 101, 114]⟩) || (decide (x = ⟨#[100, 101, 99, 101, 109, 98, 101, 114]⟩) || false)))))))))))))))))))))))) = false) : monthIdx x = none := by
  rw [month_or] at h
  unfold monthIdx
  rw [List.findIdx?_eq_none_iff]
  intro y hy
  have := List.any_eq_false.mp h y hy
  exact Bool.eq_false_iff.mpr this

noncomputable def monthNum (j : Nat) : Int := if (j : Int) + 1 > 12 then (j : Int) + 1 - 12 else (j : Int) + 1
/-- the day's text and the month's number, in either order -/
noncomputable def monthOf (dd mm : Str) : Option (Str × Int) := match monthIdx (Txt.lower mm) with
  | some j => some (dd, monthNum j)
  | none => match monthIdx (Txt.lower dd) with
    | some j => some (Txt.lower mm, monthNum j)
    | none => none
noncomputable def f12 (yy dd tm : Str) (j : Nat) (tz : Str) : Option PRes := f14 yy dd tm (monthNum j) tz
noncomputable def f9 (yy dd mm tm tz : Str) : Option PRes := match monthOf dd mm with
  | none => none
  | some (d, k) => f14 yy d tm k tz

theorem p12 (w : World) (m : Str → Option Value) (news : List (Addr × Obj)) (yy dd mm tm tz : Str) (t1 t2 t3 t4 t7 : Tok)
  (h1 : m (Str.ofString "yy") = some (.str yy t1)) (h2 : m (Str.ofString "mm") = some (.str mm t2)) (h3 : m (Str.ofString "dd") = some (.str dd t3))
  (h4 : m (Str.ofString "tm") = some (.str tm t4)) (h7 : m (Str.ofString "tz") = some (.str tz t7))
  (j : Nat) (hj : monthIdx mm = some j) (s1 : Ok yy) (s3 : Ok dd) (s4 : Ok tm) (s7 : Ok tz) (hne : 0 < tm.length) (hy : 0 < yy.length) (hd0 : 0 < dd.length) :
   RunsC w 31 12 m news 1 (ParseR (f12 yy dd tm j tz) news) := by
  ((k_dflt (refine' RunsC.intro ?ho ?hb ?_; (case ho => k_is); (case hb => rfl))); intro _ _ _ _ _ _ _ _ _ _ _ _ _ _ _ _ _ _ _ _ _ _ _ _ _ _ _ _ _)
  intro hret
  have hj24 : j < 24 := by
    obtain ⟨hl, _⟩ := List.findIdx?_eq_some_iff_getElem.mp hj
    exact hl
  refine execs_consC (wpC_of ?_)
  (k_with "getMethod ref" => apply Hold.out)
  k_steps
  refine Hold.mk ?_
  k_with_none
  refine method_top ((Frag.In.keeps (by assumption) (Fr.keep (by assumption))) 15 _ (by k_is)) ?_
  (k_with "call builtin:list.index cons nil" => apply Hold.out)
  k_steps
  refine Hold.mk ?_
  k_with_none
  refine index_strs ((Frag.In.keeps (by assumption) (Fr.keep (by assumption))) 15 _ (by k_is)) (ys := monthYs) ?_ hj (by decide) ?_
  · repeat (first | exact .nil | refine .cons _ _ ?_)
  k_steps
  dsimp only
  refine execs_consC (wpC_of ?_)
  k_steps
  all_goals (
    dsimp only
    refine' @RunsC.use w 31 14 _ _ _ _ _ _ _ _ _ _ _ _ _ _ _ _ _ _ _ _ _ _ _ _ _ _ _ _ _ _ _ _ _ _ _ _ _ _ _ (by k_asm) (by k_asm) (by assumption) (by assumption) (by assumption) (by assumption) (by assumption) (by assumption) (by k_is) (by rfl)
      (p14 w _ _ _ _ _ _ _ _ _ _ _ _ (by first | rfl | assumption) (by first | rfl | assumption) (by first | rfl | assumption) (by first | rfl | assumption) (by first | rfl | assumption) s1 s3 s4 s7 hne hy hd0) ?_
    intro v nw' m' h' tk' g' Tn F N r
    refine hret v nw' m' h' tk' g' Tn F N (ParseR.congr (ParseR.mono (by first | exact Keeps.refl _ | exact Keeps.cons (Keeps.refl _)) r) ?_)
    unfold f12 monthNum
    first | rw [if_pos (by omega)] | rw [if_neg (by omega)])

theorem p9 (w : World) (m : Str → Option Value) (news : List (Addr × Obj)) (yy dd mm tm tz : Str) (t1 t2 t3 t4 t7 : Tok)
  (h1 : m (Str.ofString "yy") = some (.str yy t1)) (h2 : m (Str.ofString "mm") = some (.str mm t2)) (h3 : m (Str.ofString "dd") = some (.str dd t3))
  (h4 : m (Str.ofString "tm") = some (.str tm t4)) (h7 : m (Str.ofString "tz") = some (.str tz t7))
  (s1 : Ok yy) (s2 : Ok mm) (s3 : Ok dd) (s4 : Ok tm) (s7 : Ok tz) (hne : 0 < tm.length) (hy : 0 < yy.length) (hd0 : 0 < dd.length) (hm0 : 0 < mm.length) :
   RunsC w 31 9 m news 1 (ParseR (f9 yy dd mm tm tz) news) := by
  ((k_dflt (refine' RunsC.intro ?ho ?hb ?_; (case ho => k_is); (case hb => rfl))); intro _ _ _ _ _ _ _ _ _ _ _ _ _ _ _ _ _ _ _ _ _ _ _ _ _ _ _ _ _)
  intro hret
  have hlen : dd.length ≤ 90 := s3.1
  have hlen2 : mm.length ≤ 90 := s2.1
  have hlen3 : yy.length ≤ 90 := s1.1
  refine execs_consC (wpC_of ?_)
  k_steps
  any_goals (exfalso; omega)
  dsimp only
  refine execs_consC (wpC_of ?_)
  k_steps
  dsimp only
  refine execs_consC (wpC_of ?_)
  k_steps
  · obtain ⟨j, hj⟩ := month_yes (by assumption)
    dsimp only
    refine' @RunsC.use w 31 12 _ _ _ _ _ _ _ _ _ _ _ _ _ _ _ _ _ _ _ _ _ _ _ _ _ _ _ _ _ _ _ _ _ _ _ _ _ _ _ (by k_asm) (by k_asm) (by assumption) (by assumption) (by assumption) (by assumption) (by assumption) (by assumption) (by k_is) (by rfl)
      (p12 w _ _ _ _ _ _ _ _ _ _ _ _ (by first | rfl | assumption) (by first | rfl | assumption) (by first | rfl | assumption) (by first | rfl | assumption) (by first | rfl | assumption) j hj s1 s3 s4 s7 hne hy hd0) ?_
    intro v nw' m' h' tk' g' Tn F N r
    refine hret v nw' m' h' tk' g' Tn F N (ParseR.congr (ParseR.mono (by first | exact Keeps.refl _ | exact Keeps.cons (Keeps.refl _)) r) ?_)
    simp [f9, monthOf, hj, f12]
  · have hno := month_no (x := Txt.lower mm) (by assumption)
    obtain ⟨j, hj⟩ := month_yes (x := Txt.lower dd) (by assumption)
    dsimp only
    refine' @RunsC.use w 31 12 _ _ _ _ _ _ _ _ _ _ _ _ _ _ _ _ _ _ _ _ _ _ _ _ _ _ _ _ _ _ _ _ _ _ _ _ _ _ _ (by k_asm) (by k_asm) (by assumption) (by assumption) (by assumption) (by assumption) (by assumption) (by assumption) (by k_is) (by rfl)
      (p12 w _ _ _ _ _ _ _ _ _ _ _ _ (by first | rfl | assumption) (by first | rfl | assumption) (by first | rfl | assumption) (by first | rfl | assumption) (by first | rfl | assumption) j hj s1 s2.lower s4 s7 hne hy (by rw [len_lower s2.2]; exact hm0)) ?_
    intro v nw' m' h' tk' g' Tn F N r
    refine hret v nw' m' h' tk' g' Tn F N (ParseR.congr (ParseR.mono (by first | exact Keeps.refl _ | exact Keeps.cons (Keeps.refl _)) r) ?_)
    simp [f9, monthOf, hno, hj, f12]
  · have hno := month_no (x := Txt.lower mm) (by assumption)
    have hno2 := month_no (x := Txt.lower dd) (by assumption)
    exact hret _ _ _ _ _ _ .refl (by assumption) (by assumption) ⟨Keeps.cons (Keeps.refl _), by simp [f9, monthOf, hno, hno2]⟩
end
section
theorem reset8 : True := by
  k_with_none
  w_top off
  trivial
set_option maxRecDepth 100000
set_option maxHeartbeats 8000000

/-- a word of the law's texts, of one sign or more; with a dash or a plus it is at its head -/
structure Wd (x : Str) : Prop where
  ok : Ok x
  ne : 0 < x.length
  cut : (Txt.split x (Str.ofString "-")).length ≠ 3
  plus : Txt.find x (Str.ofString "+") ≤ 0
  dash : Txt.find x (Str.ofString "-") ≤ 0

theorem ok_nil : Ok (Str.ofString "") := ⟨by decide +kernel, fun c hc => by rw [show (Str.ofString "").cps.toList = [] by decide +kernel] at hc; cases hc⟩

noncomputable def f4 : List Str → Option PRes
  | [a, b, c, d] => f9 c a b d (Str.ofString "")
  | a :: b :: c :: d :: e :: _ => f9 c a b d e
  | _ => none

theorem p6 (w : World) (m : Str → Option Value) (news : List (Addr × Obj)) (D : Addr) (n : Nat) (a b c d e : Str) (ta tb tc td te : Tok) (r : List (Str × Tok))
  (h1 : m (Str.ofString "data") = some (.ref D)) (ha : Ok a) (hb : Ok b) (hc : Ok c) (hd' : Ok d) (he : Ok e) (na : 0 < a.length) (nb : 0 < b.length) (nc : 0 < c.length) (nd : 0 < d.length) (hl : r.length ≤ 20) :
   RunsC w 31 6 m ((D, W.listOf (Value.str a ta :: Value.str b tb :: Value.str c tc :: Value.str d td :: Value.str e te :: strValues r).toArray n) :: news) 1 (ParseR (f9 c a b d e) news) := by
  ((k_dflt (refine' RunsC.intro ?ho ?hb ?_; (case ho => k_is); (case hb => rfl))); intro _ _ _ _ _ _ _ _ _ _ _ _ _ _ _ _ _ _ _ _ _ _ _ _ _ _ _ _ _)
  intro hret
  have hsz : ((Value.str a ta :: Value.str b tb :: Value.str c tc :: Value.str d td :: Value.str e te :: strValues r).toArray.size : Int) = (r.length : Int) + 5 := by
    simp [strValues]; omega
  refine execs_consC (wpC_of ?_)
  k_steps
  dsimp only
  refine execs_consC (wpC_of ?_)
  k_steps
  dsimp only
  refine execs_consC (wpC_of ?_)
  k_steps
  dsimp only
  refine' @RunsC.use w 31 9 _ _ _ _ _ _ _ _ _ _ _ _ _ _ _ _ _ _ _ _ _ _ _ _ _ _ _ _ _ _ _ _ _ _ _ _ _ _ _ (by k_asm) (by k_asm) (by assumption) (by assumption) (by assumption) (by assumption) (by assumption) (by assumption) (by k_is) (by rfl)
    (p9 w _ _ _ _ _ _ _ _ _ _ _ _ (by first | rfl | assumption) (by first | rfl | assumption) (by first | rfl | assumption) (by first | rfl | assumption) (by first | rfl | assumption) hc hb ha hd' he nd nc na nb) ?_
  intro v nw' m' h' tk' g' Tn F N r
  refine hret v nw' m' h' tk' g' Tn F N (ParseR.congr (ParseR.mono (by first | exact Keeps.refl _ | exact Keeps.cons (Keeps.refl _) | exact Keeps.cons (Keeps.cons (Keeps.refl _)) | exact Keeps.cons (Keeps.cons (Keeps.cons (Keeps.refl _)))) r) ?_)
  rfl

theorem p4 (w : World) (m : Str → Option Value) (news : List (Addr × Obj)) (D : Addr) (n : Nat) (l : List (Str × Tok))
  (h1 : m (Str.ofString "data") = some (.ref D)) (hD : ∀ p ∈ news, p.1 < D) (hw : ∀ x ∈ l.map (·.1), Wd x) (hl : l.length ≤ 20) :
   RunsC w 31 4 m ((D, W.listOf (strValues l).toArray n) :: news) 1 (ParseR (f4 (l.map (·.1))) news) := by
  ((k_dflt (refine' RunsC.intro ?ho ?hb ?_; (case ho => k_is); (case hb => rfl))); intro _ _ _ _ _ _ _ _ _ _ _ _ _ _ _ _ _ _ _ _ _ _ _ _ _ _ _ _ _)
  intro hret
  rcases l with _ | ⟨⟨a, ta⟩, _ | ⟨⟨b, tb⟩, _ | ⟨⟨c, tc⟩, _ | ⟨⟨d, td⟩, _ | ⟨⟨e, te⟩, r⟩⟩⟩⟩⟩ <;> dsimp only [strValues, List.map] at *
  · iterate 3 (refine execs_consC (wpC_of ?_); k_steps; try dsimp only)
    exact hret _ _ _ _ _ _ .refl (by assumption) (by assumption) ⟨Keeps.cons (Keeps.refl _), rfl⟩
  · iterate 3 (refine execs_consC (wpC_of ?_); k_steps; try dsimp only)
    exact hret _ _ _ _ _ _ .refl (by assumption) (by assumption) ⟨Keeps.cons (Keeps.refl _), rfl⟩
  · iterate 3 (refine execs_consC (wpC_of ?_); k_steps; try dsimp only)
    exact hret _ _ _ _ _ _ .refl (by assumption) (by assumption) ⟨Keeps.cons (Keeps.refl _), rfl⟩
  · have ha := hw a (.head _)
    have hla : a.length ≤ 90 := ha.ok.1
    have hcut := ha.cut
    refine execs_consC (wpC_of ?_)
    refine wpAny_If ?_
    k_steps
    rename List (Str × Tok) => l2
    rename List.map _ l2 = _ => hsp2
    have hl2 : l2.length ≠ 3 := by
      intro q
      rw [← hsp2] at hcut
      exact hcut (by simpa using q)
    any_goals (exfalso; omega)
    all_goals (
      dsimp only
      iterate 2 (refine execs_consC (wpC_of ?_); k_steps; try dsimp only)
      exact hret _ _ _ _ _ _ .refl (by assumption) (by assumption) ⟨by first | exact Keeps.refl _ | exact Keeps.cons (Keeps.refl _) | exact Keeps.cons (Keeps.cons (Keeps.refl _)) | exact Keeps.cons (Keeps.cons (Keeps.cons (Keeps.refl _))), rfl⟩)
  · have hdd := hw d (.tail _ (.tail _ (.tail _ (.head _))))
    have hld : d.length ≤ 90 := hdd.ok.1
    have hplus := hdd.plus
    have hdash := hdd.dash
    have hae := hw a (.head _)
    have hbe := hw b (.tail _ (.head _))
    have hce := hw c (.tail _ (.tail _ (.head _)))
    refine execs_consC (wpC_of ?_)
    k_steps
    try dsimp only
    refine execs_consC (wpC_of ?_)
    k_steps
    all_goals (
      dsimp only
      refine' @RunsC.use w 31 6 _ _ _ _ _ _ _ _ _ _ _ _ _ _ _ _ _ _ _ _ _ _ _ _ _ _ _ _ _ _ _ _ _ _ _ _ _ _ _ (by k_asm) (by k_asm) (by assumption) (by assumption) (by assumption) (by assumption) (by assumption) (by assumption) (by k_is) (by rfl)
        (p6 w _ _ D _ a b c d (Str.ofString "") ta tb tc td _ [] (by first | rfl | assumption) hae.ok hbe.ok hce.ok hdd.ok ok_nil hae.ne hbe.ne hce.ne hdd.ne (by simp)) ?_
      intro v nw' m' h' tk' g' Tn F N r
      refine hret v nw' m' h' tk' g' Tn F N (ParseR.congr (ParseR.mono (by first | exact Keeps.refl _ | exact Keeps.cons (Keeps.refl _) | exact Keeps.cons (Keeps.cons (Keeps.refl _)) | exact Keeps.cons (Keeps.cons (Keeps.cons (Keeps.refl _)))) r) ?_)
      rfl)
  · have hlr : r.length ≤ 20 := by simp only [List.length_cons] at hl; omega
    have hsz : ((Value.str a ta :: Value.str b tb :: Value.str c tc :: Value.str d td :: Value.str e te :: List.map (fun p => Value.str p.1 p.2) r).toArray.size : Int) = (r.length : Int) + 5 := by
      simp; omega
    have hae := hw a (.head _)
    have hbe := hw b (.tail _ (.head _))
    have hce := hw c (.tail _ (.tail _ (.head _)))
    have hde := hw d (.tail _ (.tail _ (.tail _ (.head _))))
    have hee := hw e (.tail _ (.tail _ (.tail _ (.tail _ (.head _)))))
    refine execs_consC (wpC_of ?_)
    k_steps
    any_goals (exfalso; omega)
    dsimp only
    refine execs_consC (wpC_of ?_)
    k_steps
    any_goals (exfalso; omega)
    dsimp only
    refine' @RunsC.use w 31 6 _ _ _ _ _ _ _ _ _ _ _ _ _ _ _ _ _ _ _ _ _ _ _ _ _ _ _ _ _ _ _ _ _ _ _ _ _ _ _ (by k_asm) (by k_asm) (by assumption) (by assumption) (by assumption) (by assumption) (by assumption) (by assumption) (by k_is) (by rfl)
      (p6 w _ _ D _ a b c d e ta tb tc td te r (by first | rfl | assumption) hae.ok hbe.ok hce.ok hde.ok hee.ok hae.ne hbe.ne hce.ne hde.ne hlr) ?_
    intro v nw' m' h' tk' g' Tn F N r
    refine hret v nw' m' h' tk' g' Tn F N (ParseR.congr (ParseR.mono (by first | exact Keeps.refl _ | exact Keeps.cons (Keeps.refl _) | exact Keeps.cons (Keeps.cons (Keeps.refl _)) | exact Keeps.cons (Keeps.cons (Keeps.cons (Keeps.refl _)))) r) ?_)
    rfl
end
section
theorem reset9 : True := by
  k_with_none
  w_top off
  trivial
set_option maxRecDepth 100000
set_option maxHeartbeats 8000000

noncomputable def dayName (x : Str) : Bool := decide (Txt.lower x = { cps := #[109, 111, 110] }) ||
      (decide (Txt.lower x = { cps := #[116, 117, 101] }) ||
        (decide (Txt.lower x = { cps := #[119, 101, 100] }) ||
          (decide (Txt.lower x = { cps := #[116, 104, 117] }) ||
            (decide (Txt.lower x = { cps := #[102, 114, 105] }) ||
              (decide (Txt.lower x = { cps := #[115, 97, 116] }) ||
                (decide (Txt.lower x = { cps := #[115, 117, 110] }) || false))))))
/-- the words behind the weekday -/
noncomputable def wk (x : Str) (r : List Str) : List Str :=
  if Txt.endswith x (Str.ofString ",") = true then r else if dayName x = true then r
  else if 0 ≤ Txt.rfind x (Str.ofString ",") then Txt.slice x (some (Txt.rfind x (Str.ofString ",") + 1)) none :: r else x :: r
theorem p3 (w : World) (m : Str → Option Value) (news : List (Addr × Obj)) (D : Addr) (n : Nat) (x : Str) (tx : Tok) (l : List (Str × Tok))
  (h1 : m (Str.ofString "data") = some (.ref D)) (hD : ∀ p ∈ news, p.1 < D) (hx : Ok x) (hw : ∀ y ∈ wk x (l.map (·.1)), Wd y) (hl : l.length ≤ 19) :
   RunsC w 31 3 m ((D, W.listOf (strValues ((x, tx) :: l)).toArray n) :: news) 1 (ParseR (f4 (wk x (l.map (·.1)))) news) := by
  ((k_dflt (refine' RunsC.intro ?ho ?hb ?_; (case ho => k_is); (case hb => rfl))); intro _ _ _ _ _ _ _ _ _ _ _ _ _ _ _ _ _ _ _ _ _ _ _ _ _ _ _ _ _)
  intro hret
  have hlx : x.length ≤ 90 := hx.1
  have hsz : (strValues ((x, tx) :: l)).toArray.size = l.length + 1 := by simp [strValues]
  have hszL : (strValues ((x, tx) :: l)).toArray.toList.length ≤ sizeLine := by
    rw [Array.length_toList, hsz]
    exact Nat.le_trans (Nat.add_le_add_right hl 1) (by decide)
  refine execs_consC (wpC_of ?_)
  k_steps
  · rename Txt.endswith x _ = true => he
    refine ki_del (news' := (D, W.listOf (strValues l).toArray (n + 1)) :: news) (q := strValues l) (k := 0) (by k_asm) (by k_asm) rfl (by rw [hsz]; simp [seqIndex?] <;> omega) rfl (Upd.head (fun p hp => Nat.ne_of_lt (hD p hp))) hszL ?_
    intro h' F' N'
    k_steps
    dsimp only
    have e : wk x (l.map (·.1)) = l.map (·.1) := by unfold wk; rw [if_pos he]
    rw [e] at hw hret
    refine' @RunsC.use w 31 4 _ _ _ _ _ _ _ _ _ _ _ _ _ _ _ _ _ _ _ _ _ _ _ _ _ _ _ _ _ _ _ _ _ _ _ _ _ _ _ (by k_asm) (by k_asm) (by assumption) (by assumption) (by assumption) (by assumption) (by assumption) (by assumption) (by k_is) (by rfl)
      (p4 w _ _ D _ l (by first | rfl | assumption) hD hw (by omega)) ?_
    intro v nw' m' h' tk' g' Tn F N r
    exact hret v nw' m' h' tk' g' Tn F N r
  · rename Txt.endswith x _ = false => he
    have hdn : dayName x = true := by unfold dayName; assumption
    refine ki_del (news' := (D, W.listOf (strValues l).toArray (n + 1)) :: news) (q := strValues l) (k := 0) (by k_asm) (by k_asm) rfl (by rw [hsz]; simp [seqIndex?] <;> omega) rfl (Upd.head (fun p hp => Nat.ne_of_lt (hD p hp))) hszL ?_
    intro h' F' N'
    k_steps
    dsimp only
    have e : wk x (l.map (·.1)) = l.map (·.1) := by unfold wk; rw [if_neg (by rw [he]; decide), if_pos hdn]
    rw [e] at hw hret
    refine' @RunsC.use w 31 4 _ _ _ _ _ _ _ _ _ _ _ _ _ _ _ _ _ _ _ _ _ _ _ _ _ _ _ _ _ _ _ _ _ _ _ _ _ _ _ (by k_asm) (by k_asm) (by assumption) (by assumption) (by assumption) (by assumption) (by assumption) (by assumption) (by k_is) (by rfl)
      (p4 w _ _ D _ l (by first | rfl | assumption) hD hw (by omega)) ?_
    intro v nw' m' h' tk' g' Tn F N r
    exact hret v nw' m' h' tk' g' Tn F N r
  · dsimp only
    rename Txt.endswith x _ = false => he
    rename 0 ≤ Txt.rfind x _ => hr
    have hdn : dayName x = false := by unfold dayName; assumption
    have e : wk x (l.map (·.1)) = Txt.slice x (some (Txt.rfind x (Str.ofString ",") + 1)) none :: l.map (·.1) := by
      unfold wk; rw [if_neg (by rw [he]; decide), if_neg (by rw [hdn]; decide), if_pos hr]
    rw [e] at hw hret
    refine' @RunsC.use w 31 4 _ _ _ _ _ _ _ _ _ _ _ _ _ _ _ _ _ _ _ _ _ _ _ _ _ _ _ _ _ _ _ _ _ _ _ _ _ _ _ (by k_asm) (by k_asm) (by assumption) (by assumption) (by assumption) (by assumption) (by assumption) (by assumption) (by k_is) (by rfl)
      (p4 w _ _ D _ ((Txt.slice x (some (Txt.rfind x (Str.ofString ",") + 1)) none, _) :: l) (by first | rfl | assumption) hD hw (by simp only [List.length_cons]; omega)) ?_
    intro v nw' m' h' tk' g' Tn F N r
    exact hret v nw' m' h' tk' g' Tn F N r
  · dsimp only
    rename Txt.endswith x _ = false => he
    rename ¬ 0 ≤ Txt.rfind x _ => hr
    have hdn : dayName x = false := by unfold dayName; assumption
    have e : wk x (l.map (·.1)) = x :: l.map (·.1) := by
      unfold wk; rw [if_neg (by rw [he]; decide), if_neg (by rw [hdn]; decide), if_neg hr]
    rw [e] at hw hret
    refine' @RunsC.use w 31 4 _ _ _ _ _ _ _ _ _ _ _ _ _ _ _ _ _ _ _ _ _ _ _ _ _ _ _ _ _ _ _ _ _ _ _ _ _ _ _ (by k_asm) (by k_asm) (by assumption) (by assumption) (by assumption) (by assumption) (by assumption) (by assumption) (by k_is) (by rfl)
      (p4 w _ _ D _ ((x, tx) :: l) (by first | rfl | assumption) hD hw (by simp only [List.length_cons]; omega)) ?_
    intro v nw' m' h' tk' g' Tn F N r
    exact hret v nw' m' h' tk' g' Tn F N r

/-- the answer of _parsedate_tz for these words -/
noncomputable def f2 : List Str → Option PRes
  | [] => none
  | x :: r => f4 (wk x r)

noncomputable def Fit2 : List Str → Prop
  | [] => True
  | x :: r => Ok x ∧ (∀ y ∈ wk x r, Wd y) ∧ r.length ≤ 19
theorem words_nil {x : Str} (h : (x.length : Int) = 0) : Txt.words x = [] := by
  have e : x = ⟨#[]⟩ := by
    rcases x with ⟨c⟩
    have : c.size = 0 := by exact_mod_cast h
    rw [Array.eq_empty_of_size_eq_zero this]
  rw [e]
  decide +kernel
theorem news_lt {h₀ h : Heap} {L : Addr} {news : List (Addr × Obj)} (N : News h₀ L h news) : ∀ p ∈ news, p.1 < h.objs.size := fun p hp => by
  have h1 := (N p hp).1
  rcases Nat.lt_or_ge p.1 h.objs.size with q | q
  · exact q
  · have : h.objs[p.1]? = none := Array.getElem?_eq_none q
    unfold Heap.get? at h1
    rw [this] at h1
    cases h1
theorem p0 (w : World) (m : Str → Option Value) (news : List (Addr × Obj)) (x : Str) (tx : Tok)
  (h1 : m (Str.ofString "data") = some (.str x tx)) (hx : x.length ≤ 2000) (hf : Fit2 (Txt.words x)) :
   RunsC w 31 0 m news 1 (ParseR (f2 (Txt.words x)) news) := by
  ((k_dflt (refine' RunsC.intro ?ho ?hb ?_; (case ho => k_is); (case hb => rfl))); intro _ _ _ _ _ _ _ _ _ _ _ _ _ _ _ _ _ _ _ _ _ _ _ _ _ _ _ _ _)
  intro hret
  rename News _ _ _ _ => N0
  have hD := news_lt N0
  refine execs_consC (wpC_of ?_)
  k_steps
  · dsimp only
    refine execs_consC (wpC_of ?_)
    k_steps
    dsimp only
    rename List (Str × Tok) => l
    rename List.map _ l = _ => hsp
    rw [← hsp] at hf hret
    rcases l with _ | ⟨⟨y, ty⟩, r⟩
    · dsimp only [strValues, List.map] at *
      refine execs_consC (wpC_of ?_)
      k_steps
      exact hret _ _ _ _ _ _ .refl (by assumption) (by assumption) ⟨Keeps.cons (Keeps.refl _), rfl⟩
    · refine execs_consC (wpC_of ?_)
      (k_with "truthy ref" => apply Hold.out)
      k_steps
      have hrl : r.length ≤ 19 := by have := hf.2.2; rwa [List.length_map] at this
      refine Hold.mk ?_
      k_with_none
      refine kgr_truthy (by k_asm) (.head _) rfl rfl (by simp only [strValues, List.length_map, List.length_cons]; omega) ?_
      rw [show (!(strValues ((y, ty) :: r)).isEmpty) = true from rfl]
      k_steps
      dsimp only
      refine' @RunsC.use w 31 3 _ _ _ _ _ _ _ _ _ _ _ _ _ _ _ _ _ _ _ _ _ _ _ _ _ _ _ _ _ _ _ _ _ _ _ _ _ _ _ (by k_asm) (by k_asm) (by assumption) (by assumption) (by assumption) (by assumption) (by assumption) (by assumption) (by k_is) (by rfl)
        (p3 w _ _ _ _ y ty r (by first | rfl | assumption) hD hf.1 hf.2.1 hrl) ?_
      intro v nw' m' h' tk' g' Tn F N r
      exact hret v nw' m' h' tk' g' Tn F N r
  · dsimp only
    rw [words_nil (by assumption)] at hret
    exact hret _ _ _ _ _ _ .refl (by assumption) (by assumption) ⟨Keeps.refl _, rfl⟩
end
section
theorem reset10 : True := by
  k_with_none
  w_top off
  trivial
set_option maxRecDepth 100000
set_option maxHeartbeats 8000000

theorem CallsC.use {w : World} {f : Addr} {vs : List Value} {news : List (Addr × Obj)} {dn : Nat} {R : Value → List (Addr × Obj) → Prop} (H : CallsC w f vs news dn R)
    {mean : ExcName → Option Value} {mg mb : Str → Option Value} {dp un : Nat} {gd : Option (List Code)} {cn : Str} {cs : Scope} {a : Addr} {ccd : Value} {cl : List (Str × Addr)} {outer : List Env} {base g : Heap} {L L' f' : Addr} {qual : Str} {scope : Scope} {cdv : Value} {m : Str → Option Value} {s : Shared} {Q E : Value → Shared → Prop}
    (F : Fr g L' s.heap m) (N : News g L' s.heap news)
    (B : Below (ktrTop dp un gd cn cs L a ccd cl outer) base (envX cn cs L a ccd cl :: outer) g) (X : (topK.heap_1 w.params).In base) (T : Top topK.view_1 loo mean mg mb base) (hk : scope.kind = .function) (hd1 : dp + 1 + dn < recursionLimit) (hu : un + 3 + 8 * dn < cLine)
    (hret : ∀ v nw h' tk' h₀', KtsTurn ((envX cn cs L a ccd cl :: outer).filterMap (·.frame)) g h₀' → Below (ktrTop dp un gd cn cs L a ccd cl outer) base (envX cn cs L a ccd cl :: outer) h₀' → (topK.heap_1 w.params).In h₀' → Top topK.view_1 loo mean mg mb h₀' → Fr h₀' L' h' m → News h₀' L' h' nw → R v nw → Q v { s with heap := h', toks := tk' }) :
    wpC (model Challenge.rw_dp0021_01.row.prog w) ((ktrTop dp un gd cn cs L a ccd cl outer).deeper (envOf qual scope L' f' cdv)) (call (.ref f) vs) Q E s :=
  H mean mg mb (dp+1) (un+3) gd qual scope f' cdv [] (envX cn cs L a ccd cl :: outer) (ktrTop dp un gd cn cs L a ccd cl outer) base g L' m s Q E B F X N T hk hd1 hu
    (fun v nw h' tk' h₀' Tn B' F' N' r => hret v nw h' tk' h₀' Tn B' (X.keeps B'.stays) (T.keeps B'.stays) F' N' r)

theorem c31 (w : World) (x : Str) (tx : Tok) (news : List (Addr × Obj)) (hx : x.length ≤ 2000) (hf : Fit2 (Txt.words x)) :
    CallsC w 31 [.str x tx] news 1 (ParseR (f2 (Txt.words x)) news) := by
  refine' CallsC.of ?ho ?hcd ?hb ?hl ?c1 ?c2 ?c3 ?c4 (p0 w _ _ x tx ?_ hx hf)
  case ho => k_is
  case hcd => k_is
  case hb => intro s; exact BindsTo.of_eq rfl
  case hl => exact locs rfl
  case c1 => rfl
  case c2 => rfl
  case c3 => rfl
  case c4 => decide
  rfl

noncomputable def TupR (r : Option PRes) (nw0 : List (Addr × Obj)) (v : Value) (nw' : List (Addr × Obj)) : Prop :=
  Keeps nw0 nw' ∧ match r with
  | none => v = .none
  | some r => ∃ D t1 t2 t3 t4 t5 t6 t7 t8 t9 t10, v = .ref D ∧ (D, { cls := Value.type "tuple", data := .seq #[.int r.yy t1, .int r.mm t2, .int r.dd t3, .int r.hh t4, .int r.mi t5, .int r.ss t6, .int 0 t7, .int 1 t8, .int (-1) t9, .int (r.tz.getD 0) t10] }) ∈ nw'

theorem q0 (w : World) (m : Str → Option Value) (news : List (Addr × Obj)) (x : Str) (tx : Tok)
  (h1 : m (Str.ofString "data") = some (.str x tx)) (hx : x.length ≤ 2000) (hf : Fit2 (Txt.words x)) :
   RunsC w 24 0 m news 2 (TupR (f2 (Txt.words x)) news) := by
  ((k_dflt (refine' RunsC.intro ?ho ?hb ?_; (case ho => k_is); (case hb => rfl))); intro _ _ _ _ _ _ _ _ _ _ _ _ _ _ _ _ _ _ _ _ _ _ _ _ _ _ _ _ _)
  intro hret
  refine execs_consC (Assign_NameC (Call_C ?_))
  k_steps
  refine callWith_KC (by k_asm) (by k_is) ?_
  k_steps
  refine CallsC.use (c31 w x tx news hx hf) (by k_asm) (by k_asm) (by assumption) (by assumption) (by assumption) (by rfl) (by omega) (by omega) ?_
  intro v nw h' tk' g' Tn B' X' T' F' N' r
  obtain ⟨kp, r⟩ := r
  cases hr : f2 (Txt.words x) with
  | none =>
    rw [hr] at r hret
    dsimp only at r
    subst r
    k_steps
    dsimp only
    refine execs_consC (wpC_of ?_)
    k_steps
    exact hret _ _ _ _ _ _ Tn (by assumption) (by assumption) ⟨kp, rfl⟩
  | some y =>
    rw [hr] at r hret
    obtain ⟨D, t1, t2, t3, t4, t5, t6, t7, t8, t9, t10, e, hm, hl⟩ := r
    subst e
    have N2 : News g' _ h' ((D, W.listOf #[.int y.yy t1, .int y.mm t2, .int y.dd t3, .int y.hh t4, .int y.mi t5, .int y.ss t6, .int 0 t7, .int 1 t8, .int (-1) t9, tzVal y.tz t10] 0) :: news) :=
      cb_drop N' (fun p hp => by rcases List.mem_cons.mp hp with rfl | hp; exact hm; exact kp p hp)
    clear N'
    rcases y with ⟨yy, mm, dd, hh, mi, ss, tz⟩
    cases tz with
    | none =>
      dsimp only [tzVal] at *
      k_steps
      iterate 3 (refine execs_consC (wpC_of ?_); k_steps; try dsimp only)
      exact hret _ _ _ _ _ _ Tn (by assumption) (by assumption) ⟨Keeps.cons (Keeps.cons (Keeps.refl _)), _, _, _, _, _, _, _, _, _, _, _, rfl, .head _⟩
    | some z =>
      dsimp only [tzVal] at *
      k_steps
      iterate 3 (refine execs_consC (wpC_of ?_); k_steps; try dsimp only)
      exact hret _ _ _ _ _ _ Tn (by assumption) (by assumption) ⟨Keeps.cons (Keeps.cons (Keeps.refl _)), _, _, _, _, _, _, _, _, _, _, _, rfl, .head _⟩

theorem c24 (w : World) (x : Str) (tx : Tok) (news : List (Addr × Obj)) (hx : x.length ≤ 2000) (hf : Fit2 (Txt.words x)) :
    CallsC w 24 [.str x tx] news 2 (TupR (f2 (Txt.words x)) news) := by
  refine' CallsC.of ?ho ?hcd ?hb ?hl ?c1 ?c2 ?c3 ?c4 (q0 w _ _ x tx ?_ hx hf)
  case ho => k_is
  case hcd => k_is
  case hb => intro s; exact BindsTo.of_eq rfl
  case hl => exact locs rfl
  case c1 => rfl
  case c2 => rfl
  case c3 => rfl
  case c4 => decide
  rfl

noncomputable def Tup9R (r : Option PRes) (nw0 : List (Addr × Obj)) (v : Value) (nw' : List (Addr × Obj)) : Prop :=
  Keeps nw0 nw' ∧ match r with
  | none => v = .none
  | some r => ∃ D t1 t2 t3 t4 t5 t6 t7 t8 t9, v = .ref D ∧ (D, { cls := Value.type "tuple", data := .seq #[.int r.yy t1, .int r.mm t2, .int r.dd t3, .int r.hh t4, .int r.mi t5, .int r.ss t6, .int 0 t7, .int 1 t8, .int (-1) t9] }) ∈ nw'

theorem r0 (w : World) (m : Str → Option Value) (news : List (Addr × Obj)) (x : Str) (tx : Tok)
  (h1 : m (Str.ofString "data") = some (.str x tx)) (hx : x.length ≤ 2000) (hf : Fit2 (Txt.words x)) :
   RunsC w 38 0 m news 3 (Tup9R (f2 (Txt.words x)) news) := by
  ((k_dflt (refine' RunsC.intro ?ho ?hb ?_; (case ho => k_is); (case hb => rfl))); intro _ _ _ _ _ _ _ _ _ _ _ _ _ _ _ _ _ _ _ _ _ _ _ _ _ _ _ _ _)
  intro hret
  refine execs_consC (Assign_NameC (Call_C ?_))
  k_steps
  refine callWith_KC (by k_asm) (by k_is) ?_
  k_steps
  refine CallsC.use (c24 w x tx news hx hf) (by k_asm) (by k_asm) (by assumption) (by assumption) (by assumption) (by rfl) (by omega) (by omega) ?_
  intro v nw h' tk' g' Tn B' X' T' F' N' r
  obtain ⟨kp, r⟩ := r
  cases hr : f2 (Txt.words x) with
  | none =>
    rw [hr] at r hret
    dsimp only at r
    subst r
    k_steps
    dsimp only
    refine execs_consC (wpC_of ?_)
    k_steps
    exact hret _ _ _ _ _ _ Tn (by assumption) (by assumption) ⟨kp, rfl⟩
  | some y =>
    rw [hr] at r hret
    obtain ⟨D, t1, t2, t3, t4, t5, t6, t7, t8, t9, t10, e, hm⟩ := r
    subst e
    have N2 : News g' _ h' ((D, { cls := Value.type "tuple", data := .seq #[.int y.yy t1, .int y.mm t2, .int y.dd t3, .int y.hh t4, .int y.mi t5, .int y.ss t6, .int 0 t7, .int 1 t8, .int (-1) t9, .int (y.tz.getD 0) t10] }) :: news) :=
      cb_drop N' (fun p hp => by rcases List.mem_cons.mp hp with rfl | hp; exact hm; exact kp p hp)
    clear N'
    k_steps
    (k_with "subscriptTail Name Slice ref ref" => apply Hold.out)
    refine execs_consC (wpC_of ?_); k_steps
    refine Hold.mk ?_
    k_with_none
    try dsimp only
    refine slice_nine (s := { heap := _, gens := _, drawn := _, toks := _, os := _ }) (by k_asm) (by k_asm) (News.isTup (by k_asm) (.head _)) ?_
    intro h2 F2 N2
    exact hret _ _ _ _ _ _ Tn F2 N2 ⟨Keeps.cons (Keeps.cons (Keeps.refl _)), _, _, _, _, _, _, _, _, _, _, rfl, .head _⟩
theorem c38 (w : World) (x : Str) (tx : Tok) (news : List (Addr × Obj)) (hx : x.length ≤ 2000) (hf : Fit2 (Txt.words x)) :
    CallsC w 38 [.str x tx] news 3 (Tup9R (f2 (Txt.words x)) news) := by
  refine' CallsC.of ?ho ?hcd ?hb ?hl ?c1 ?c2 ?c3 ?c4 (r0 w _ _ x tx ?_ hx hf)
  case ho => k_is
  case hcd => k_is
  case hb => intro s; exact BindsTo.of_eq rfl
  case hl => exact locs rfl
  case c1 => rfl
  case c2 => rfl
  case c3 => rfl
  case c4 => decide
  rfl
end
section
theorem reset11 : True := by
  k_with_none
  w_top off
  trivial
set_option maxRecDepth 100000
set_option maxHeartbeats 8000000

noncomputable def caseOf (x : Str) (way : Int) : Str := if way = 0 then x else if way = 1 then Txt.upper x else if way = 2 then Txt.lower x else Txt.lower (Txt.slice x none (some 1)) ++ Txt.upper (Txt.slice x (some 1) none)

theorem k52 (w : World) (x : Str) (tx tw : Tok) (way : Int) (news : List (Addr × Obj)) (hx : x.length ≤ 20) (hw : 0 ≤ way) (hw2 : way < 4) :
    Calls w 52 [.str x tx, .int way tw] news 1 (fun v nw => Keeps news nw ∧ ∃ t, v = .str (caseOf x way) t) := by
  intro mean mg mb dp un gd cn cs a ccd cl outer A₀ base h₀ L m s Q E B F X N T hk hd1 hu hret
  refine wpAny_call ?_
  k_dflt cell_enter
  have hw4 : way = 0 ∨ way = 1 ∨ way = 2 ∨ way = 3 := by omega
  rcases hw4 with rfl | rfl | rfl | rfl
  all_goals (
    k_steps
    exact hret _ _ _ _ (by assumption) (by assumption) ⟨by first | exact Keeps.refl _ | exact Keeps.cons (Keeps.refl _), _, rfl⟩)


section
variable {prog : Program} {w : World} {A : Around} {E : Value → Shared → Prop} {s : Shared} {env : Env} {h₀ : Heap} {x : Str} {body : List Stmt} {Q : Flow → Shared → Prop}
theorem UnrEnd.mono {L : Addr} {s₁ s₂ : Shared} {I : Addr} {it : Obj} {r r' : (Str → Option Value) → List (Addr × Obj) → Prop} (H : ∀ m n, r m n → r' m n) (h : UnrEnd h₀ L s₁ I it r s₂) : UnrEnd h₀ L s₁ I it r' s₂ := by
  obtain ⟨h', tk, m', n', e, F, N, off, z⟩ := h
  exact ⟨h', tk, m', n', e, F, N, off, H _ _ z⟩
theorem listRest_ind {I : Addr} {lp : Addr × Obj} (J : List Value → (Str → Option Value) → List (Addr × Obj) → Prop)
    (step : ∀ v r m news, J (v :: r) m news → ∀ (it : Obj) h tk, it.cls = .type "list_iterator" → Fr h₀ env.locals h (fun y => if y = x then some v else m y) → News h₀ env.locals h ((I, it) :: news) →
      wpAny (model prog w) A (execs body env) (UnrPost h₀ env.locals { s with heap := h, toks := tk } I it (fun m' n' => lp ∈ n' ∧ J r m' n') Q) E { s with heap := h, toks := tk })
    (fin : ∀ m news, J [] m news → ∀ h tk, Fr h₀ env.locals h m → News h₀ env.locals h news → Q .next { s with heap := h, toks := tk }) :
    ∀ vs m news, J vs m news → ListRest prog w A E h₀ env x body Q s I lp vs m news
  | [], m, news, j => ListRest.zero (fin m news j)
  | v :: r, m, news, j => ListRest.succ fun it h tk hc F N => wpAny_mono (step v r m news j it h tk hc F N) (fun f s₂ p => by
      have up : ∀ m' n', (lp ∈ n' ∧ J r m' n') → (lp ∈ n' ∧ ListRest prog w A E h₀ env x body Q s I lp r m' n') := fun m' n' z => ⟨z.1, listRest_ind J step fin r m' n' z.2⟩
      cases f with
      | next => exact UnrEnd.mono up p
      | cont => exact UnrEnd.mono up p
      | brk => exact p
      | ret v => exact p) fun _ _ e => e
end

noncomputable def cutRow : Int → List Int → List Int
  | _, [] => []
  | n, z :: r => n % z :: cutRow (n / z) r
noncomputable def iVals (l : List (Int × Tok)) : List Value := l.map fun p => .int p.1 p.2
end
section
theorem reset12 : True := by
  k_with_none
  w_top off
  trivial
set_option maxRecDepth 100000
set_option maxHeartbeats 8000000
theorem k45 (w : World) (n : Int) (tn : Tok) (S : Addr) (v0 : Nat) (l : List (Int × Tok)) (news : List (Addr × Obj)) (hn : 0 ≤ n) (hl : ∀ p ∈ l, 0 < p.1 ∧ p.1 ≤ 100000000000000000000) (hll : l.length ≤ 30) (hS : ∀ p ∈ news, p.1 < S) :
    Calls w 45 [.int n tn, .ref S] ((S, W.listOf (iVals l).toArray v0) :: news) 1 (fun v nw => ∃ D k q, v = .ref D ∧ nw = (D, W.listOf (iVals q).toArray k) :: (S, W.listOf (iVals l).toArray v0) :: news ∧ q.map (·.1) = cutRow n (l.map (·.1)) ∧ S < D ∧ ∀ p ∈ news, p.1 < D) := by
  intro mean mg mb dp un gd cn cs a ccd cl outer A₀ base h₀ L m s Q E B F X N T hk hd1 hu hret
  refine wpAny_call ?_
  k_dflt cell_enter
  k_steps
  (rename Fr _ _ _ _ => lF'); (with_unfolding_all refine' For_invVF lF' ?k1 ?k2 ?_; (case k1 => exact rfl); (case k2 => exact rfl))
  k_steps
  rename_i D ha l1 hb N1
  refine iter_listUnr (vs := iVals l) rfl lF' N1 (.tail _ (.head _)) rfl rfl ?_
  intro I hI
  refine listRest_ind (J := fun vs m' n' => ∃ (l2 : List (Int × Tok)) (n2 : Int) (t2 : Tok) (q : List (Int × Tok)) (k : Nat), vs = iVals l2 ∧ (∀ p ∈ l2, 0 < p.1 ∧ p.1 ≤ 100000000000000000000) ∧ 0 ≤ n2 ∧ m' (Str.ofString "rest") = some (.int n2 t2) ∧ m' (Str.ofString "row") = some (.ref D) ∧ n' = (D, W.listOf (iVals q).toArray k) :: (S, W.listOf (iVals l).toArray v0) :: news ∧ q.map (·.1) ++ cutRow n2 (l2.map (·.1)) = cutRow n (l.map (·.1)) ∧ q.length + l2.length = l.length) ?step ?fin _ _ _ ?init
  case init => exact ⟨l, n, tn, [], 0, rfl, hl, hn, rfl, rfl, rfl, rfl, by simp⟩
  case fin =>
    rintro m' n' ⟨l2, n2, t2, q, k, e, h2, hn2, hr, hrow, rfl, hq, hlen⟩ h tk F2 N2
    have hl2 : l2 = [] := by cases l2 with | nil => rfl | cons _ _ => cases e
    subst hl2
    k_steps
    refine hret _ _ _ _ (by assumption) (by assumption) ⟨D, _, q, rfl, rfl, ?_, l1.1, fun p hp => Nat.lt_trans (hS p hp) l1.1⟩
    rw [← hq]; simp [cutRow]
  case step =>
    rintro v r m' n' ⟨l2, n2, t2, q, k, e, h2, hn2, hr, hrow, rfl, hq, hlen⟩ it h tk hc F2 N2
    obtain ⟨⟨z, tz⟩, l3, rfl⟩ : ∃ a b, l2 = a :: b := by cases l2 with | nil => cases e | cons a b => exact ⟨a, b, rfl⟩
    obtain ⟨rfl, rfl⟩ : v = .int z tz ∧ r = iVals l3 := by injection e with e1 e2; exact ⟨e1, e2⟩
    have hz : 0 < z := (h2 _ (.head _)).1
    have hz2 : z ≤ 100000000000000000000 := (h2 _ (.head _)).2
    clear lF' N1
    have hID : D < I := hI _ (.head _)
    have hIS : S < I := hI _ (.tail _ (.head _))
    have hIn : ∀ p ∈ news, p.1 < I := fun p hp => hI p (.tail _ (.tail _ hp))
    have hDS : S < D := l1.1
    simp only [List.length_cons] at hlen
    k_steps
    refine append_K (by k_asm) (by k_asm) (Upd.tail (Nat.ne_of_gt hID) (Upd.head (fun p hp => by
      rcases List.mem_cons.mp hp with rfl | hp
      · exact Nat.ne_of_lt hDS
      · exact Nat.ne_of_lt (Nat.lt_trans (hS p hp) hDS)))) ?_ ?_
    · intro h' F' N'
      k_steps
      refine ifloordiv_int (by omega) ?_ (Or.inl (PyProof.noPylong_of_log2 (Nat.lt_trans (Flt.log2_lt_of (k := 70) (by decide) (by omega)) (by decide))))
      k_steps
      rename_i tk0 _ _ _ h2x F2x N2x
      obtain ⟨tq, N3⟩ : ∃ tq, News _ _ h2x ((I, it) :: (D, W.listOf ((iVals q).toArray.push (Value.int (n2.fmod z) tq)) (k + 1)) :: (S, W.listOf (iVals l).toArray v0) :: news) := ⟨_, N2x⟩
      have ef : n2.fdiv z = n2 / z := Int.fdiv_eq_ediv_of_nonneg _ (Int.le_of_lt hz)
      refine UnrEnd.intro F2x N3 ((D, W.listOf (iVals (q ++ [(n2 % z, tq)])).toArray (k + 1)) :: (S, W.listOf (iVals l).toArray v0) :: news) ?_ ?_ ⟨.tail _ (.head _), l3, n2.fdiv z, _, q ++ [(n2 % z, tq)], k + 1, rfl, fun p hp => h2 p (.tail _ hp), (by rw [ef]; exact Int.ediv_nonneg hn2 (Int.le_of_lt hz)), rfl, ?_, rfl, ?_, ?_⟩
      · intro p hp
        have e1 : (iVals (q ++ [(n2 % z, tq)])).toArray = (iVals q).toArray.push (Value.int (n2.fmod z) tq) := by
          rw [Int.fmod_eq_emod_of_nonneg _ (Int.le_of_lt hz)]
          simp [iVals]
        rw [e1] at hp
        exact hp
      · intro p hp
        rcases List.mem_cons.mp hp with rfl | hp
        · exact Nat.ne_of_lt hID
        · rcases List.mem_cons.mp hp with rfl | hp
          · exact Nat.ne_of_lt hIS
          · exact Nat.ne_of_lt (hIn p hp)
      · exact hrow
      · rw [← hq, ef]
        simp [cutRow]
      · rw [← hlen]; simp; omega
    · rw [List.size_toArray]
      unfold iVals
      rw [List.length_map]
      exact Nat.le_trans (show q.length ≤ 30 by omega) (by decide)
end
section
set_option maxRecDepth 100000
set_option maxHeartbeats 8000000
theorem Calls.of {w : World} {f : Addr} {vs : List Value} {news : List (Addr × Obj)} {dn : Nat} {R : Value → List (Addr × Obj) → Prop} {binds : List (Str × Value)}
    {name qual : Str} {params : Arguments} {body : List Stmt} {scope : Scope} {dV kV doc pm cdv ct oc : Value} {an od : Option Addr} {osl : Array (Option Value)}
    (ho : (topK.heap_1 w.params).lookup f = some ⟨oc, od, .func (fnOf name qual params body scope dV kV doc pm an cdv ct), osl⟩) (hcd : codeIn (topK.heap_1 w.params) cdv qual = true)
    (hbind : ∀ s, BindsTo s (fnOf name qual params body scope dV kV doc pm an cdv ct) ⟨vs, []⟩ binds) (hloc : ∀ y ∈ binds, scope.names.lookup y.1 = some .local)
    (hco : scope.isCoroutine = false) (hgen : scope.isGenerator = false) (hk : scope.kind = .function) (hcell : ∀ x ∈ scope.names, x.2 ≠ .cell)
    (H : Runs w f 0 (fun y => binds.reverse.lookup y) news dn R) : Calls w f vs news dn R := by
  intro mean mg mb dp un gd cn cs a ccd cl outer A₀ base h₀ L m s Q E B F X N T hck hd1 hu hret
  refine wpAny_call ?_
  refine code_def (env := envX cn cs L a ccd cl) B F X N T rfl rfl hck ho hcd (show dp < recursionLimit by omega) (hbind s) hloc (fun g L' h₁ FG F' N' B' X' T' => ?_) hco hgen hk hcell
  refine Runs.elim H (rest := body) F' N' B' X' T' hck hd1 hu ho rfl ?_
  intro v nw' m' h' tk' F'' N'' r
  exact ⟨L', m', nw', F'', N'', fun F₃ N₃ => hret v nw' h' tk' F₃ N₃ r⟩

theorem Calls.use {w : World} {f : Addr} {vs : List Value} {news : List (Addr × Obj)} {dn : Nat} {R : Value → List (Addr × Obj) → Prop} (H : Calls w f vs news dn R)
    {mean : ExcName → Option Value} {mg mb : Str → Option Value} {dp un : Nat} {gd : Option (List Code)} {cn : Str} {cs : Scope} {a : Addr} {ccd : Value} {cl cl' : List (Str × Addr)} {outer : List Env} {base g : Heap} {L L' f' : Addr} {qual : Str} {scope : Scope} {cdv : Value} {m : Str → Option Value} {s : Shared} {Q E : Value → Shared → Prop}
    (F : Fr g L' s.heap m) (N : News g L' s.heap news)
    (B : Below (ktrTop dp un gd cn cs L a ccd cl outer) base (envX cn cs L a ccd cl :: outer) g) (X : (topK.heap_1 w.params).In g) (T : Top topK.view_1 loo mean mg mb g) (hk : scope.kind = .function) (hd1 : dp + 1 + dn < recursionLimit) (hu : un + 3 + 8 * dn < cLine)
    (hret : ∀ v nw h' tk', Fr g L' h' m → News g L' h' nw → R v nw → Q v { s with heap := h', toks := tk' }) :
    wpAny (model Challenge.rw_dp0021_01.row.prog w) ((ktrTop dp un gd cn cs L a ccd cl outer).deeper (envX qual scope L' f' cdv cl')) (call (.ref f) vs) Q E s :=
  H mean mg mb (dp+1) (un+3) gd qual scope f' cdv cl' (envX cn cs L a ccd cl :: outer) (ktrTop dp un gd cn cs L a ccd cl outer) base g L' m s Q E B F X N T hk hd1 hu hret

/-- Runs, closed to the elaborator -/
structure RunsS (w : World) (f : Addr) (k : Nat) (m : Str → Option Value) (nw : List (Addr × Obj)) (dn : Nat) (R : Value → List (Addr × Obj) → Prop) : Prop where
  run : Runs w f k m nw dn R
/-- Calls, closed to the elaborator -/
structure CallsS (w : World) (f : Addr) (vs : List Value) (news : List (Addr × Obj)) (dn : Nat) (R : Value → List (Addr × Obj) → Prop) : Prop where
  run : Calls w f vs news dn R
/-- as Runs, for a def with cells (its frame is at L') -/
structure RunsX (w : World) (f : Addr) (L' : Addr) (k : Nat) (m : Str → Option Value) (nw : List (Addr × Obj)) (dn : Nat) (R : Value → List (Addr × Obj) → Prop) : Prop where
  run : ∀ (mean : ExcName → Option Value) (mg mb : Str → Option Value) (dp un : Nat) (gd : Option (List Code)) (cn : Str) (cs : Scope) (a : Addr) (ccd : Value) (cl : List (Str × Addr)) (outer : List Env) (base g : Heap) (L : Addr) (s : Shared) (Q : Flow → Shared → Prop) (E : Value → Shared → Prop),
    Below (ktrTop dp un gd cn cs L a ccd cl outer) base (envX cn cs L a ccd cl :: outer) g → Fr g L' s.heap m → (topK.heap_1 w.params).In g → News g L' s.heap nw → Top topK.view_1 loo mean mg mb g → cs.kind = .function → dp + dn < recursionLimit → un + 8 * dn < cLine →
    (∀ v nw' m' h' tk', Fr g L' h' m' → News g L' h' nw' → R v nw' → Q (.ret v) { s with heap := h', toks := tk' }) →
    wpAny (model Challenge.rw_dp0021_01.row.prog w) ((ktrTop dp un gd cn cs L a ccd cl outer).deeper (envOfC (fdOf w f).qualname (fdOf w f).scope L' f (fdOf w f).code)) (execs ((bodyOf w f).drop k) (envOfC (fdOf w f).qualname (fdOf w f).scope L' f (fdOf w f).code)) Q E s

theorem RunsX.intro {w : World} {f L' : Addr} {k : Nat} {m : Str → Option Value} {nw : List (Addr × Obj)} {dn : Nat} {R : Value → List (Addr × Obj) → Prop}
    {name qual : Str} {params : Arguments} {body rest : List Stmt} {scope : Scope} {dV kV doc pm cdv ct oc : Value} {an od : Option Addr} {osl : Array (Option Value)}
    (ho : (topK.heap_1 w.params).lookup f = some ⟨oc, od, .func (fnOf name qual params body scope dV kV doc pm an cdv ct), osl⟩) (hb : body.drop k = rest) {cls : List (Str × Addr)} (hc : cellsFrom (L' + 1) scope.names [] = cls)
    (h : ∀ (mean : ExcName → Option Value) (mg mb : Str → Option Value) (dp un : Nat) (gd : Option (List Code)) (cn : Str) (cs : Scope) (a : Addr) (ccd : Value) (cl : List (Str × Addr)) (outer : List Env) (base g : Heap) (L : Addr) (s : Shared) (Q : Flow → Shared → Prop) (E : Value → Shared → Prop),
    Below (ktrTop dp un gd cn cs L a ccd cl outer) base (envX cn cs L a ccd cl :: outer) g → Fr g L' s.heap m → (topK.heap_1 w.params).In g → News g L' s.heap nw → Top topK.view_1 loo mean mg mb g → cs.kind = .function → dp + dn < recursionLimit → un + 8 * dn < cLine →
    (∀ v nw' m' h' tk', Fr g L' h' m' → News g L' h' nw' → R v nw' → Q (.ret v) { s with heap := h', toks := tk' }) →
    wpAny (model Challenge.rw_dp0021_01.row.prog w) ((ktrTop dp un gd cn cs L a ccd cl outer).deeper (envX qual scope L' f cdv cls)) (execs rest (envX qual scope L' f cdv cls)) Q E s) : RunsX w f L' k m nw dn R := by
  subst hb
  subst hc
  refine ⟨?_⟩
  intro mean mg mb dp un gd cn cs a ccd cl outer base g L s Q E B F X N T hk hd1 hu hret
  have e : fdOf w f = fnOf name qual params body scope dV kV doc pm an cdv ct := by unfold fdOf; rw [ho]
  have eb : bodyOf w f = body := by unfold bodyOf; rw [e]
  rw [e, eb]
  exact h mean mg mb dp un gd cn cs a ccd cl outer base g L s Q E B F X N T hk hd1 hu hret

theorem RunsX.use {w : World} {f L' : Addr} {k : Nat} {m : Str → Option Value} {nw : List (Addr × Obj)} {dn : Nat} {R : Value → List (Addr × Obj) → Prop}
    {name qual : Str} {params : Arguments} {body rest : List Stmt} {scope : Scope} {dV kV doc pm cdv ct oc : Value} {an od : Option Addr} {osl : Array (Option Value)}
    {mean : ExcName → Option Value} {mg mb : Str → Option Value} {dp un : Nat} {gd : Option (List Code)} {cn : Str} {cs : Scope} {a : Addr} {ccd : Value} {cl cls : List (Str × Addr)} {outer : List Env} {base g : Heap} {L : Addr} {s : Shared} {Q : Flow → Shared → Prop} {E : Value → Shared → Prop}
    (F : Fr g L' s.heap m) (N : News g L' s.heap nw) 
    (B : Below (ktrTop dp un gd cn cs L a ccd cl outer) base (envX cn cs L a ccd cl :: outer) g) (X : (topK.heap_1 w.params).In g) (T : Top topK.view_1 loo mean mg mb g) (hk : cs.kind = .function) (hd1 : dp + dn < recursionLimit) (hu : un + 8 * dn < cLine)
    (ho : (topK.heap_1 w.params).lookup f = some ⟨oc, od, .func (fnOf name qual params body scope dV kV doc pm an cdv ct), osl⟩) (hb : body.drop k = rest) (hc : cellsFrom (L' + 1) scope.names [] = cls) (H : RunsX w f L' k m nw dn R)
    (hret : ∀ v nw' m' h' tk', Fr g L' h' m' → News g L' h' nw' → R v nw' → Q (.ret v) { s with heap := h', toks := tk' }) :
    wpAny (model Challenge.rw_dp0021_01.row.prog w) ((ktrTop dp un gd cn cs L a ccd cl outer).deeper (envX qual scope L' f cdv cls)) (execs rest (envX qual scope L' f cdv cls)) Q E s := by
  subst hb
  subst hc
  have h := H.run mean mg mb dp un gd cn cs a ccd cl outer base g L s Q E B F X N T hk hd1 hu hret
  have e : fdOf w f = fnOf name qual params body scope dV kV doc pm an cdv ct := by unfold fdOf; rw [ho]
  have eb : bodyOf w f = body := by unfold bodyOf; rw [e]
  rw [e, eb] at h
  exact h
theorem allLt_mem {d : Addr} (l : List (Addr × Obj)) : AllLt d l → ∀ p ∈ l, p.1 < d := by
  induction l with
  | nil => intro _ p hp; cases hp
  | cons q r ih =>
    intro h p hp
    rcases List.mem_cons.mp hp with e | hp
    · rw [e]; exact h.1
    · exact ih h.2 p hp
end
section
theorem reset14 : True := by
  k_with_none
  w_top off
  trivial
set_option maxRecDepth 100000
set_option maxHeartbeats 8000000
local macro_rules | `(tactic| walk_at "call ref") => `(tactic| ((with_reducible show wpAny _ _ (call (Value.ref 52) _) _ _ _); refine Calls.use (k52 _ _ _ _ _ _ (by assumption) (by assumption) (by assumption)) (by k_asm) (by k_asm) (by assumption) (by assumption) (by assumption) rfl (by omega) (by omega) ?_; (intro _ _ h' tk' F' N' r'; obtain ⟨kp', _, e'⟩ := r'; subst e'; have N'' := cb_drop N' kp'; clear N' kp')))

noncomputable def zoneList (x : Option Str) (t : Tok) : Array Value := match x with | none => #[] | some x => #[.str x t]
noncomputable def ZoneR (x : Option Str) (off : Int) (news : List (Addr × Obj)) (v : Value) (nw : List (Addr × Obj)) : Prop :=
  Keeps news nw ∧ ∃ D Z t tx, v = .ref D ∧ (D, { cls := Value.type "tuple", data := .seq #[.ref Z, .int off t] }) ∈ nw ∧ (Z, W.listOf (zoneList x tx) 0) ∈ nw ∧ (∀ p ∈ news, p.1 < Z) ∧ (∀ p ∈ news, p.1 < D)

theorem ZoneR.mk {x x' : Str} {off off' : Int} {D Z : Addr} {t tx : Tok} {news nw0 : List (Addr × Obj)} (e : x' = x) (e2 : off' = off) (hk : Keeps news nw0) (h1 : ∀ p ∈ news, p.1 < Z) (h2 : Z < D) : ZoneR (some x) off news (.ref D) ((D, { cls := Value.type "tuple", data := .seq #[.ref Z, .int off' t] }) :: (Z, W.listOf #[.str x' tx] 0) :: nw0) := by
  subst e e2
  exact ⟨Keeps.cons (Keeps.cons hk), D, Z, t, tx, rfl, .head _, .tail _ (.head _), h1, fun p hp => Nat.lt_trans (h1 p hp) h2⟩

theorem z1 (w : World) (m : Str → Option Value) (hours case : Int) (t1 t2 t4 : Tok) (K D : Addr) (its : List Value) (nm : Str) (off : Int) (ta tb : Tok) (news : List (Addr × Obj)) (hh : 0 ≤ hours) (hc : 0 ≤ case) (hc2 : case < 4) (hn : nm.length ≤ 20)
  (h1 : m (Str.ofString "way") = some (.int 1 t1)) (h2 : m (Str.ofString "hours") = some (.int hours t2)) (h4 : m (Str.ofString "case") = some (.int case t4)) (h5 : m (Str.ofString "known") = some (.ref K))
  (hi : its.length = 16) (hj : its[(hours % 16).toNat]? = some (.ref D)) :
    Runs w 59 1 m ((K, W.listOf its.toArray 0) :: (D, { cls := Value.type "tuple", data := .seq #[.str nm ta, .int off tb] }) :: news) 2 (ZoneR (some (caseOf nm case)) (off * 3600) news) := by
  ((k_dflt (refine' Runs.intro ?ho ?hb ?_; (case ho => k_is); (case hb => rfl))); intro _ _ _ _ _ _ _ _ _ _ _ _ _ _ _ _ _ _ _ _ _ _ _ _ _ _ _)
  intro hret
  have hm0 : 0 ≤ hours.fmod 16 := by rw [Int.fmod_eq_emod_of_nonneg _ (by decide)]; omega
  have hm1 : hours.fmod 16 < 2 ^ 63 := by rw [Int.fmod_eq_emod_of_nonneg _ (by decide)]; omega
  have hm2 : its.toArray[(hours.fmod 16).toNat]? = some (.ref D) := by rw [Int.fmod_eq_emod_of_nonneg _ (by decide)]; simpa using hj
  (k_with "subscriptTail Name BinOp ref int" => apply Hold.out)
  k_steps
  refine Hold.mk ?_
  k_with_none
  refine item_list (News.isList (by k_asm) (.head _)) hm0 hm1 hm2 ?_
  (k_with "subscriptTail Name BinOp ref int" => apply Hold.out)
  k_steps
  refine Hold.mk ?_
  k_with_none
  refine item_list (News.isList (by k_asm) (.tail _ (.head _))) hm0 hm1 hm2 ?_
  k_steps
  rename _ ∧ _ ∧ AllLt _ _ => l1
  rename _ ∧ _ ∧ _ ∧ AllLt _ _ => l2
  refine hret _ _ _ _ _ (by assumption) (by assumption) (ZoneR.mk rfl rfl (Keeps.cons (Keeps.cons (Keeps.refl _))) (allLt_mem _ l1.2.2) l2.1)

/-- the zone's text in the numeric ways -/
noncomputable def zSign (way : Int) (bare : Bool) : Str := if way = 2 then Str.ofString "-" else if way = 3 ∧ bare = true then Str.ofString "" else Str.ofString "+"
noncomputable def zNum (way hours minutes : Int) (bare : Bool) : Str := zSign way bare ++ Str.ofString (toString hours) ++ (if minutes < 10 then Str.ofString "0" else Str.ofString "") ++ Str.ofString (toString minutes)
noncomputable def zTab : List (Str × Int) := [(Str.ofString "UT", 0), (Str.ofString "UTC", 0), (Str.ofString "GMT", 0), (Str.ofString "Z", 0), (Str.ofString "AST", -4), (Str.ofString "ADT", -3), (Str.ofString "EST", -5), (Str.ofString "EDT", -4), (Str.ofString "CST", -6), (Str.ofString "CDT", -5), (Str.ofString "MST", -7), (Str.ofString "MDT", -6), (Str.ofString "PST", -8), (Str.ofString "PDT", -7), (Str.ofString "XYZ", 0), (Str.ofString "A/B", 0)]
noncomputable def zName (hours : Int) : Str × Int := zTab.getD (hours % 16).toNat (Str.ofString "", 0)
noncomputable def zTxt (way hours minutes case : Int) (bare : Bool) : Option Str := if way = 0 then none else if way = 1 then some (caseOf (zName hours).1 case) else some (zNum way hours minutes bare)
noncomputable def zOff (way hours minutes : Int) : Int := if way = 0 then 0 else if way = 1 then (zName hours).2 * 3600 else (if way = 2 then -1 else 1) * (hours * 3600 + minutes * 60)

theorem zr (w : World) (m : Str → Option Value) (way hours minutes : Int) (x y : Str) (off : Int) (t1 t2 t3 t4 : Tok) (news : List (Addr × Obj)) (hh : 0 ≤ hours) (hh2 : hours < 100000000000000000000) (hm : 0 ≤ minutes) (hm2 : minutes < 100) (ey : x = y) (eo : (if way = 2 then -1 else 1) * (hours * 3600 + minutes * 60) = off)
  (h1 : m (Str.ofString "way") = some (.int way t1)) (h2 : m (Str.ofString "hours") = some (.int hours t2)) (h3 : m (Str.ofString "minutes") = some (.int minutes t3)) (h4 : m (Str.ofString "text") = some (.str x t4)) :
    Runs w 59 5 m news 2 (ZoneR (some y) off news) := by
  subst ey eo
  ((k_dflt (refine' Runs.intro ?ho ?hb ?_; (case ho => k_is); (case hb => rfl))); intro _ _ _ _ _ _ _ _ _ _ _ _ _ _ _ _ _ _ _ _ _ _ _ _ _ _ _)
  intro hret
  k_steps
  all_goals (
    rename _ ∧ AllLt _ _ => l2
    refine hret _ _ _ _ _ (by assumption) (by assumption) (ZoneR.mk rfl ?_ (Keeps.refl _) (by assumption) l2.1)
    first | rw [if_pos (by assumption)] | rw [if_neg (by assumption)])

theorem zs (w : World) (m : Str → Option Value) (way hours minutes : Int) (sg y : Str) (off : Int) (t1 t2 t3 t4 : Tok) (news : List (Addr × Obj)) (hh : 0 ≤ hours) (hh2 : hours < 100000000000000000000) (hm : 0 ≤ minutes) (hm2 : minutes < 100) (hs : sg.length ≤ 1) (ey : sg ++ Str.ofString (toString hours) ++ (if minutes < 10 then Str.ofString "0" else Str.ofString "") ++ Str.ofString (toString minutes) = y) (eo : (if way = 2 then -1 else 1) * (hours * 3600 + minutes * 60) = off)
  (h1 : m (Str.ofString "way") = some (.int way t1)) (h2 : m (Str.ofString "hours") = some (.int hours t2)) (h3 : m (Str.ofString "minutes") = some (.int minutes t3)) (h4 : m (Str.ofString "sign") = some (.str sg t4)) :
    Runs w 59 4 m news 2 (ZoneR (some y) off news) := by
  ((k_dflt (refine' Runs.intro ?ho ?hb ?_; (case ho => k_is); (case hb => rfl))); intro _ _ _ _ _ _ _ _ _ _ _ _ _ _ _ _ _ _ _ _ _ _ _ _ _ _ _)
  intro hret
  refine execs_step ?_
  k_steps
  all_goals (
    refine Hold.mk ?_
    refine' Runs.elim (k := 5) (zr w _ way hours minutes _ y off t1 t2 t3 _ news hh hh2 hm hm2 ?_ eo ?_ ?_ ?_ ?_) (by k_asm) (by k_asm) (by assumption) (by assumption) (by assumption) (by assumption) (by assumption) (by assumption) (by k_is) (by rfl) hret
    any_goals first | exact h1 | exact h2 | exact h3 | (show _ = some (Value.str _ _); exact rfl)
    rw [← ey]
    first | rw [if_pos (by assumption)] | rw [if_neg (by assumption)])
theorem z2 (w : World) (m : Str → Option Value) (way hours minutes case : Int) (bare : Bool) (t1 t2 t3 : Tok) (news : List (Addr × Obj)) (hw : way = 0 ∨ way = 2 ∨ way = 3 ∨ way = 4) (hh : 0 ≤ hours) (hh2 : hours < 100000000000000000000) (hm : 0 ≤ minutes) (hm2 : minutes < 100)
  (h1 : m (Str.ofString "way") = some (.int way t1)) (h2 : m (Str.ofString "hours") = some (.int hours t2)) (h3 : m (Str.ofString "minutes") = some (.int minutes t3)) (h5 : m (Str.ofString "bare") = some (.bool bare)) :
    Runs w 59 1 m news 2 (ZoneR (zTxt way hours minutes case bare) (zOff way hours minutes) news) := by
  ((k_dflt (refine' Runs.intro ?ho ?hb ?_; (case ho => k_is); (case hb => rfl))); intro _ _ _ _ _ _ _ _ _ _ _ _ _ _ _ _ _ _ _ _ _ _ _ _ _ _ _)
  intro hret
  rcases hw with rfl | hw
  · k_steps
    rename _ ∧ AllLt _ _ => l2
    exact hret _ _ _ _ _ (by assumption) (by assumption) ⟨Keeps.cons (Keeps.cons (Keeps.refl _)), _, _, _, 0, rfl, .head _, .tail _ (.head _), (by assumption), allLt_mem _ l2.2⟩
  have w0 : way ≠ 0 := by rcases hw with rfl | rfl | rfl <;> decide
  have w1 : way ≠ 1 := by rcases hw with rfl | rfl | rfl <;> decide
  have w9 : way = 2 ∨ way = 3 ∨ way = 4 := hw
  have ex : zTxt way hours minutes case bare = some (zNum way hours minutes bare) := by unfold zTxt; rw [if_neg w0, if_neg w1]
  have eo : zOff way hours minutes = (if way = 2 then -1 else 1) * (hours * 3600 + minutes * 60) := by unfold zOff; rw [if_neg w0, if_neg w1]
  rw [ex, eo] at hret
  clear ex eo
  rcases hw with rfl | rfl | rfl
  all_goals (
    (try cases bare)
    all_goals (
      refine execs_step ?_
      k_steps
      refine Hold.mk ?_
      refine execs_step ?_
      k_steps
      refine Hold.mk ?_
      refine execs_step ?_
      k_steps
      refine Hold.mk ?_
      refine' Runs.elim (k := 4) (zs w _ _ hours minutes _ _ _ _ t2 t3 _ news hh hh2 hm hm2 ?_ ?_ rfl ?_ ?_ ?_ ?_) (by k_asm) (by k_asm) (by assumption) (by assumption) (by assumption) (by assumption) (by assumption) (by assumption) (by k_is) (by rfl) hret
      any_goals first | exact h1 | exact h2 | exact h3 | (show _ = some (Value.str _ _); exact rfl)
      any_goals first | exact Nat.zero_le _ | exact Nat.le_refl _ | rfl))

theorem lt16 : ∀ n : Nat, n < 16 → (n : Int) = 0 ∨ (n : Int) = 1 ∨ (n : Int) = 2 ∨ (n : Int) = 3 ∨ (n : Int) = 4 ∨ (n : Int) = 5 ∨ (n : Int) = 6 ∨ (n : Int) = 7 ∨ (n : Int) = 8 ∨ (n : Int) = 9 ∨ (n : Int) = 10 ∨ (n : Int) = 11 ∨ (n : Int) = 12 ∨ (n : Int) = 13 ∨ (n : Int) = 14 ∨ (n : Int) = 15 := by decide
theorem elim16 {P : Prop} (hours : Int) (hh : 0 ≤ hours) (c0 : hours % 16 = 0 → P) (c1 : hours % 16 = 1 → P) (c2 : hours % 16 = 2 → P) (c3 : hours % 16 = 3 → P) (c4 : hours % 16 = 4 → P) (c5 : hours % 16 = 5 → P) (c6 : hours % 16 = 6 → P) (c7 : hours % 16 = 7 → P) (c8 : hours % 16 = 8 → P) (c9 : hours % 16 = 9 → P) (c10 : hours % 16 = 10 → P) (c11 : hours % 16 = 11 → P) (c12 : hours % 16 = 12 → P) (c13 : hours % 16 = 13 → P) (c14 : hours % 16 = 14 → P) (c15 : hours % 16 = 15 → P) : P := by
  have h1 := Int.emod_nonneg hours (show (16 : Int) ≠ 0 by decide)
  have h2 := Int.emod_lt_of_pos hours (show (0 : Int) < 16 by decide)
  have h3 : hours % 16 = 0 ∨ hours % 16 = 1 ∨ hours % 16 = 2 ∨ hours % 16 = 3 ∨ hours % 16 = 4 ∨ hours % 16 = 5 ∨ hours % 16 = 6 ∨ hours % 16 = 7 ∨ hours % 16 = 8 ∨ hours % 16 = 9 ∨ hours % 16 = 10 ∨ hours % 16 = 11 ∨ hours % 16 = 12 ∨ hours % 16 = 13 ∨ hours % 16 = 14 ∨ hours % 16 = 15 := by
    rw [← Int.toNat_of_nonneg h1] at h2 ⊢
    exact lt16 _ (Int.ofNat_lt.mp h2)
  exact h3.elim c0 fun h3 => h3.elim c1 fun h3 => h3.elim c2 fun h3 => h3.elim c3 fun h3 => h3.elim c4 fun h3 => h3.elim c5 fun h3 => h3.elim c6 fun h3 => h3.elim c7 fun h3 => h3.elim c8 fun h3 => h3.elim c9 fun h3 => h3.elim c10 fun h3 => h3.elim c11 fun h3 => h3.elim c12 fun h3 => h3.elim c13 fun h3 => h3.elim c14 fun h3 => c15 h3

theorem zpick (hours : Int) (hh : 0 ≤ hours) {g h : Heap} {L K : Addr} {news : List (Addr × Obj)} {d0 d1 d2 d3 d4 d5 d6 d7 d8 d9 d10 d11 d12 d13 d14 d15 : Addr} {a0 b0 a1 b1 a2 b2 a3 b3 a4 b4 a5 b5 a6 b6 a7 b7 a8 b8 a9 b9 a10 b10 a11 b11 a12 b12 a13 b13 a14 b14 a15 b15 : Tok}
    (N : News g L h ((K, W.listOf #[.ref d0, .ref d1, .ref d2, .ref d3, .ref d4, .ref d5, .ref d6, .ref d7, .ref d8, .ref d9, .ref d10, .ref d11, .ref d12, .ref d13, .ref d14, .ref d15] 0) :: (d15, { cls := Value.type "tuple", data := .seq #[.str (Str.ofString "A/B") a15, .int 0 b15] }) :: (d14, { cls := Value.type "tuple", data := .seq #[.str (Str.ofString "XYZ") a14, .int 0 b14] }) :: (d13, { cls := Value.type "tuple", data := .seq #[.str (Str.ofString "PDT") a13, .int (-7) b13] }) :: (d12, { cls := Value.type "tuple", data := .seq #[.str (Str.ofString "PST") a12, .int (-8) b12] }) :: (d11, { cls := Value.type "tuple", data := .seq #[.str (Str.ofString "MDT") a11, .int (-6) b11] }) :: (d10, { cls := Value.type "tuple", data := .seq #[.str (Str.ofString "MST") a10, .int (-7) b10] }) :: (d9, { cls := Value.type "tuple", data := .seq #[.str (Str.ofString "CDT") a9, .int (-5) b9] }) :: (d8, { cls := Value.type "tuple", data := .seq #[.str (Str.ofString "CST") a8, .int (-6) b8] }) :: (d7, { cls := Value.type "tuple", data := .seq #[.str (Str.ofString "EDT") a7, .int (-4) b7] }) :: (d6, { cls := Value.type "tuple", data := .seq #[.str (Str.ofString "EST") a6, .int (-5) b6] }) :: (d5, { cls := Value.type "tuple", data := .seq #[.str (Str.ofString "ADT") a5, .int (-3) b5] }) :: (d4, { cls := Value.type "tuple", data := .seq #[.str (Str.ofString "AST") a4, .int (-4) b4] }) :: (d3, { cls := Value.type "tuple", data := .seq #[.str (Str.ofString "Z") a3, .int 0 b3] }) :: (d2, { cls := Value.type "tuple", data := .seq #[.str (Str.ofString "GMT") a2, .int 0 b2] }) :: (d1, { cls := Value.type "tuple", data := .seq #[.str (Str.ofString "UTC") a1, .int 0 b1] }) :: (d0, { cls := Value.type "tuple", data := .seq #[.str (Str.ofString "UT") a0, .int 0 b0] }) :: news)) :
    ∃ (D : Addr) (ta tb : Tok), [Value.ref d0, Value.ref d1, Value.ref d2, Value.ref d3, Value.ref d4, Value.ref d5, Value.ref d6, Value.ref d7, Value.ref d8, Value.ref d9, Value.ref d10, Value.ref d11, Value.ref d12, Value.ref d13, Value.ref d14, Value.ref d15][(hours % 16).toNat]? = some (Value.ref D) ∧ (zName hours).1.length ≤ 20 ∧ News g L h ((K, W.listOf [Value.ref d0, Value.ref d1, Value.ref d2, Value.ref d3, Value.ref d4, Value.ref d5, Value.ref d6, Value.ref d7, Value.ref d8, Value.ref d9, Value.ref d10, Value.ref d11, Value.ref d12, Value.ref d13, Value.ref d14, Value.ref d15].toArray 0) :: (D, { cls := Value.type "tuple", data := .seq #[.str (zName hours).1 ta, .int (zName hours).2 tb] }) :: news) := by
  have hK := N _ (.head _)
  have hN : ∀ p ∈ news, h.get? p.1 = some p.2 ∧ p.1 ≠ L ∧ g.get? p.1 = none := fun p hp => N p (.tail _ (.tail _ (.tail _ (.tail _ (.tail _ (.tail _ (.tail _ (.tail _ (.tail _ (.tail _ (.tail _ (.tail _ (.tail _ (.tail _ (.tail _ (.tail _ (.tail _ hp)))))))))))))))))
  have key : ∀ (D : Addr) (o : Obj), (h.get? D = some o ∧ D ≠ L ∧ g.get? D = none) → News g L h ((K, W.listOf [Value.ref d0, Value.ref d1, Value.ref d2, Value.ref d3, Value.ref d4, Value.ref d5, Value.ref d6, Value.ref d7, Value.ref d8, Value.ref d9, Value.ref d10, Value.ref d11, Value.ref d12, Value.ref d13, Value.ref d14, Value.ref d15].toArray 0) :: (D, o) :: news) := by
    intro D o hD p hp
    rcases List.mem_cons.mp hp with e | hp
    · rw [e]; exact hK
    · rcases List.mem_cons.mp hp with e | hp
      · rw [e]; exact hD
      · exact hN p hp
  have fin : ∀ (D : Addr) (ta tb : Tok) (x : Str) (i : Int), zName hours = (x, i) → [Value.ref d0, Value.ref d1, Value.ref d2, Value.ref d3, Value.ref d4, Value.ref d5, Value.ref d6, Value.ref d7, Value.ref d8, Value.ref d9, Value.ref d10, Value.ref d11, Value.ref d12, Value.ref d13, Value.ref d14, Value.ref d15][(hours % 16).toNat]? = some (Value.ref D) → x.length ≤ 20 → (h.get? D = some { cls := Value.type "tuple", data := .seq #[.str x ta, .int i tb] } ∧ D ≠ L ∧ g.get? D = none) → ∃ (D : Addr) (ta tb : Tok), [Value.ref d0, Value.ref d1, Value.ref d2, Value.ref d3, Value.ref d4, Value.ref d5, Value.ref d6, Value.ref d7, Value.ref d8, Value.ref d9, Value.ref d10, Value.ref d11, Value.ref d12, Value.ref d13, Value.ref d14, Value.ref d15][(hours % 16).toNat]? = some (Value.ref D) ∧ (zName hours).1.length ≤ 20 ∧ News g L h ((K, W.listOf [Value.ref d0, Value.ref d1, Value.ref d2, Value.ref d3, Value.ref d4, Value.ref d5, Value.ref d6, Value.ref d7, Value.ref d8, Value.ref d9, Value.ref d10, Value.ref d11, Value.ref d12, Value.ref d13, Value.ref d14, Value.ref d15].toArray 0) :: (D, { cls := Value.type "tuple", data := .seq #[.str (zName hours).1 ta, .int (zName hours).2 tb] }) :: news) := by
    intro D ta tb x i ez e1 e2 e3
    rw [ez]
    exact ⟨D, ta, tb, e1, e2, key _ _ e3⟩
  have zn : ∀ k : Int, hours % 16 = k → zName hours = zTab.getD k.toNat (Str.ofString "", 0) := fun k e => by unfold zName; rw [e]
  have zi : ∀ k : Int, hours % 16 = k → [Value.ref d0, Value.ref d1, Value.ref d2, Value.ref d3, Value.ref d4, Value.ref d5, Value.ref d6, Value.ref d7, Value.ref d8, Value.ref d9, Value.ref d10, Value.ref d11, Value.ref d12, Value.ref d13, Value.ref d14, Value.ref d15][(hours % 16).toNat]? = [Value.ref d0, Value.ref d1, Value.ref d2, Value.ref d3, Value.ref d4, Value.ref d5, Value.ref d6, Value.ref d7, Value.ref d8, Value.ref d9, Value.ref d10, Value.ref d11, Value.ref d12, Value.ref d13, Value.ref d14, Value.ref d15][k.toNat]? := fun k e => by rw [e]
  exact elim16 hours hh
    (fun e => fin d0 a0 b0 _ _ (zn _ e) (zi _ e) (by decide +kernel) (N _ (.tail _ (.tail _ (.tail _ (.tail _ (.tail _ (.tail _ (.tail _ (.tail _ (.tail _ (.tail _ (.tail _ (.tail _ (.tail _ (.tail _ (.tail _ (.tail _ (.head _)))))))))))))))))))
    (fun e => fin d1 a1 b1 _ _ (zn _ e) (zi _ e) (by decide +kernel) (N _ (.tail _ (.tail _ (.tail _ (.tail _ (.tail _ (.tail _ (.tail _ (.tail _ (.tail _ (.tail _ (.tail _ (.tail _ (.tail _ (.tail _ (.tail _ (.head _))))))))))))))))))
    (fun e => fin d2 a2 b2 _ _ (zn _ e) (zi _ e) (by decide +kernel) (N _ (.tail _ (.tail _ (.tail _ (.tail _ (.tail _ (.tail _ (.tail _ (.tail _ (.tail _ (.tail _ (.tail _ (.tail _ (.tail _ (.tail _ (.head _)))))))))))))))))
    (fun e => fin d3 a3 b3 _ _ (zn _ e) (zi _ e) (by decide +kernel) (N _ (.tail _ (.tail _ (.tail _ (.tail _ (.tail _ (.tail _ (.tail _ (.tail _ (.tail _ (.tail _ (.tail _ (.tail _ (.tail _ (.head _))))))))))))))))
    (fun e => fin d4 a4 b4 _ _ (zn _ e) (zi _ e) (by decide +kernel) (N _ (.tail _ (.tail _ (.tail _ (.tail _ (.tail _ (.tail _ (.tail _ (.tail _ (.tail _ (.tail _ (.tail _ (.tail _ (.head _)))))))))))))))
    (fun e => fin d5 a5 b5 _ _ (zn _ e) (zi _ e) (by decide +kernel) (N _ (.tail _ (.tail _ (.tail _ (.tail _ (.tail _ (.tail _ (.tail _ (.tail _ (.tail _ (.tail _ (.tail _ (.head _))))))))))))))
    (fun e => fin d6 a6 b6 _ _ (zn _ e) (zi _ e) (by decide +kernel) (N _ (.tail _ (.tail _ (.tail _ (.tail _ (.tail _ (.tail _ (.tail _ (.tail _ (.tail _ (.tail _ (.head _)))))))))))))
    (fun e => fin d7 a7 b7 _ _ (zn _ e) (zi _ e) (by decide +kernel) (N _ (.tail _ (.tail _ (.tail _ (.tail _ (.tail _ (.tail _ (.tail _ (.tail _ (.tail _ (.head _))))))))))))
    (fun e => fin d8 a8 b8 _ _ (zn _ e) (zi _ e) (by decide +kernel) (N _ (.tail _ (.tail _ (.tail _ (.tail _ (.tail _ (.tail _ (.tail _ (.tail _ (.head _)))))))))))
    (fun e => fin d9 a9 b9 _ _ (zn _ e) (zi _ e) (by decide +kernel) (N _ (.tail _ (.tail _ (.tail _ (.tail _ (.tail _ (.tail _ (.tail _ (.head _))))))))))
    (fun e => fin d10 a10 b10 _ _ (zn _ e) (zi _ e) (by decide +kernel) (N _ (.tail _ (.tail _ (.tail _ (.tail _ (.tail _ (.tail _ (.head _)))))))))
    (fun e => fin d11 a11 b11 _ _ (zn _ e) (zi _ e) (by decide +kernel) (N _ (.tail _ (.tail _ (.tail _ (.tail _ (.tail _ (.head _))))))))
    (fun e => fin d12 a12 b12 _ _ (zn _ e) (zi _ e) (by decide +kernel) (N _ (.tail _ (.tail _ (.tail _ (.tail _ (.head _)))))))
    (fun e => fin d13 a13 b13 _ _ (zn _ e) (zi _ e) (by decide +kernel) (N _ (.tail _ (.tail _ (.tail _ (.head _))))))
    (fun e => fin d14 a14 b14 _ _ (zn _ e) (zi _ e) (by decide +kernel) (N _ (.tail _ (.tail _ (.head _)))))
    (fun e => fin d15 a15 b15 _ _ (zn _ e) (zi _ e) (by decide +kernel) (N _ (.tail _ (.head _))))
end
section
theorem reset15 : True := by
  k_with_none
  w_top off
  trivial
set_option maxRecDepth 100000
set_option maxHeartbeats 8000000
theorem z0 (w : World) (m : Str → Option Value) (way hours minutes cas : Int) (bare : Bool) (t1 t2 t3 t4 : Tok) (news : List (Addr × Obj)) (hw : 0 ≤ way) (hw2 : way < 5) (hh : 0 ≤ hours) (hh2 : hours < 100000000000000000000) (hm : 0 ≤ minutes) (hm2 : minutes < 100) (hc : 0 ≤ cas) (hc2 : cas < 4)
  (h1 : m (Str.ofString "way") = some (.int way t1)) (h2 : m (Str.ofString "hours") = some (.int hours t2)) (h3 : m (Str.ofString "minutes") = some (.int minutes t3)) (h4 : m (Str.ofString "case") = some (.int cas t4)) (h5 : m (Str.ofString "bare") = some (.bool bare)) :
    RunsS w 59 0 m news 2 (ZoneR (zTxt way hours minutes cas bare) (zOff way hours minutes) news) := by
  refine ⟨?_⟩
  ((k_dflt (refine' Runs.intro ?ho ?hb ?_; (case ho => k_is); (case hb => rfl))); intro _ _ _ _ _ _ _ _ _ _ _ _ _ _ _ _ _ _ _ _ _ _ _ _ _ _ _)
  intro hret
  refine execs_step ?_
  k_steps
  refine Hold.mk ?_
  rename Fr _ _ _ _ => F1
  rename News _ _ _ _ => N1
  by_cases hw1 : way = 1
  · subst hw1
    obtain ⟨D, ta, tb, hx, hn, N2⟩ := zpick hours hh N1
    clear N1
    refine' Runs.elim (k := 1) (z1 w _ hours cas t1 t2 t4 _ D _ (zName hours).1 (zName hours).2 ta tb news hh hc hc2 hn ?p1 ?p2 ?p3 ?p4 rfl hx) F1 N2 (by assumption) (by assumption) (by assumption) (by assumption) (by assumption) (by assumption) (by k_is) (by rfl) ?_
    case p1 => assumption
    case p2 => assumption
    case p3 => assumption
    case p4 => rfl
    intro v nw' m' h' tk' F N r
    have e1 : zTxt 1 hours minutes cas bare = some (caseOf (zName hours).1 cas) := by simp [zTxt]
    have e2 : zOff 1 hours minutes = (zName hours).2 * 3600 := by simp [zOff]
    rw [e1, e2] at hret
    exact hret v nw' m' h' tk' F N r
  · have N2 := cb_drop N1 (news := news) (by intro p hp; repeat (first | exact hp | apply List.Mem.tail))
    clear N1
    refine' Runs.elim (k := 1) (z2 w _ way hours minutes cas bare t1 t2 t3 news (by omega) hh hh2 hm hm2 ?_ ?_ ?_ ?_) (by k_asm) (by k_asm) (by assumption) (by assumption) (by assumption) (by assumption) (by assumption) (by assumption) (by k_is) (by rfl) ?_
    case refine'_1 => assumption
    case refine'_2 => assumption
    case refine'_3 => assumption
    case refine'_4 => assumption
    intro v nw' m' h' tk' F N r
    exact hret v nw' m' h' tk' F N r
end
section
set_option maxRecDepth 100000
set_option maxHeartbeats 8000000
theorem k59 (w : World) (way hours minutes cas : Int) (bare : Bool) (t1 t2 t3 t4 : Tok) (news : List (Addr × Obj)) (hw : 0 ≤ way) (hw2 : way < 5) (hh : 0 ≤ hours) (hh2 : hours < 100000000000000000000) (hm : 0 ≤ minutes) (hm2 : minutes < 100) (hc : 0 ≤ cas) (hc2 : cas < 4) :
    CallsS w 59 [.int way t1, .int hours t2, .int minutes t3, .int cas t4, .bool bare] news 2 (ZoneR (zTxt way hours minutes cas bare) (zOff way hours minutes) news) := by
  refine ⟨?_⟩
  refine' Calls.of (binds := [(Str.ofString "way", .int way t1), (Str.ofString "hours", .int hours t2), (Str.ofString "minutes", .int minutes t3), (Str.ofString "case", .int cas t4), (Str.ofString "bare", .bool bare)]) ?ho ?hcd ?hb ?hl ?c1 ?c2 ?c3 ?c4 ?H
  case ho => k_is
  case hcd => k_is
  case c1 => rfl
  case c2 => rfl
  case c3 => rfl
  case c4 => decide
  case hb => intro s; exact BindsTo.of_eq (by kernel_rfl)
  case hl => exact locs rfl
  case H =>
    have hz := z0 w (fun y => (List.reverse [(Str.ofString "way", Value.int way t1), (Str.ofString "hours", .int hours t2), (Str.ofString "minutes", .int minutes t3), (Str.ofString "case", .int cas t4), (Str.ofString "bare", .bool bare)]).lookup y) way hours minutes cas bare t1 t2 t3 t4 news hw hw2 hh hh2 hm hm2 hc hc2 (by kernel_rfl) (by kernel_rfl) (by kernel_rfl) (by kernel_rfl) (by kernel_rfl)
    obtain ⟨hy⟩ := hz
    assumption
end
section
theorem reset17 : True := by
  k_with_none
  w_top off
  trivial
set_option maxRecDepth 100000
set_option maxHeartbeats 8000000
/-- what _law_date hands back: the text and what is due -/
noncomputable def DateR (x : Str) (due : Option PRes) (news : List (Addr × Obj)) (v : Value) (nw : List (Addr × Obj)) : Prop :=
  Keeps news nw ∧ ∃ D tx dv, v = .ref D ∧ (D, { cls := Value.type "tuple", data := .seq #[.str x tx, dv] }) ∈ nw ∧ match due with
  | none => dv = .none
  | some r => ∃ U t1 t2 t3 t4 t5 t6 t7 t8 t9 t10, dv = .ref U ∧ (U, { cls := Value.type "tuple", data := .seq #[.int r.yy t1, .int r.mm t2, .int r.dd t3, .int r.hh t4, .int r.mi t5, .int r.ss t6, .int 0 t7, .int 1 t8, .int (-1) t9, .int (r.tz.getD 0) t10] }) ∈ nw

theorem DateR.mono {x : Str} {d : Option PRes} {a b c : List (Addr × Obj)} {v : Value} (h : Keeps a b) (r : DateR x d b v c) : DateR x d a v c := ⟨h.trans r.1, r.2⟩
theorem DateR.mk {x : Str} {d : Option PRes} {D U : Addr} {tx t1 t2 t3 t4 t5 t6 t7 t8 t9 t10 : Tok} {y mo dd hh mi ss z : Int} {news nw0 : List (Addr × Obj)} (hk : Keeps news nw0) (e : d = some ⟨y, mo, dd, hh, mi, ss, some z⟩) :
    DateR x d news (.ref D) ((D, { cls := Value.type "tuple", data := .seq #[.str x tx, .ref U] }) :: (U, { cls := Value.type "tuple", data := .seq #[.int y t1, .int mo t2, .int dd t3, .int hh t4, .int mi t5, .int ss t6, .int 0 t7, .int 1 t8, .int (-1) t9, .int z t10] }) :: nw0) := by
  subst e
  exact ⟨Keeps.cons (Keeps.cons hk), D, tx, _, rfl, .head _, U, t1, t2, t3, t4, t5, t6, t7, t8, t9, t10, rfl, .tail _ (.head _)⟩

noncomputable def dueOf (good : Bool) (month clock off v0 v1 v2 v3 v4 : Int) : Option PRes :=
  if good = true then some ⟨v1 + (if v1 > 99 then 0 else if v1 > 68 then 1900 else 2000), month % 12 + 1, v0, v2, v3, if clock % 2 = 1 then v4 else 0, some off⟩ else none

theorem due_eq {good : Bool} {month clock off v0 v1 v2 v3 v4 sh last : Int} (hg : good = true) (hs : (99 < v1 ∧ sh = 0) ∨ (¬ 99 < v1 ∧ 68 < v1 ∧ sh = 1900) ∨ (¬ 99 < v1 ∧ ¬ 68 < v1 ∧ sh = 2000)) (hl : (clock.fmod 2 = 1 ∧ last = v4) ∨ (¬ clock.fmod 2 = 1 ∧ last = 0)) :
    dueOf good month clock off v0 v1 v2 v3 v4 = some ⟨v1 + sh, month.fmod 12 + 1, v0, v2, v3, last, some off⟩ := by
  have e12 : month.fmod 12 = month % 12 := Int.fmod_eq_emod_of_nonneg _ (by decide)
  have e2 : clock.fmod 2 = clock % 2 := Int.fmod_eq_emod_of_nonneg _ (by decide)
  rw [e2] at hl
  rw [e12]
  unfold dueOf
  rw [if_pos hg]
  rcases hs with ⟨a, rfl⟩ | ⟨a, b, rfl⟩ | ⟨a, b, rfl⟩ <;> rcases hl with ⟨c, rfl⟩ | ⟨c, rfl⟩ <;> simp [a, c] <;> omega

theorem d20 (w : World) (m : Str → Option Value) (L' Va : Addr) (x : Str) (tx ts tl : Tok) (due : Option PRes) (sh last month off v0 v1 v2 v3 v4 v5 : Int) (c0 c2 b4 b5 b6 b7 b8 b9 : Tok) (n : Nat) (news : List (Addr × Obj))
  (h1 : m (Str.ofString "text") = some (.str x tx)) (h3 : m (Str.ofString "values") = some (.ref Va)) (h4 : m (Str.ofString "month") = some (.int month c0)) (h6 : m (Str.ofString "offset") = some (.int off c2)) (h7 : m (Str.ofString "shift") = some (.int sh ts)) (h8 : m (Str.ofString "last") = some (.int last tl)) (hm : 0 ≤ month) (hm2 : month < 24) (hv : 0 ≤ v1) (hv2 : v1 < 100000000000000000000) (e : due = some ⟨v1 + sh, month.fmod 12 + 1, v0, v2, v3, last, some off⟩) :
    RunsX w 64 L' 20 m ((Va, W.listOf #[.int v0 b4, .int v1 b5, .int v2 b6, .int v3 b7, .int v4 b8, .int v5 b9] n) :: news) 3 (DateR x due news) := by
  ((k_dflt (refine' RunsX.intro (cls := [(Str.ofString "zoned", _ + 3), (Str.ofString "parts", _ + 2), (Str.ofString "zeros", _ + 1)]) ?ho ?hb ?hc ?_; (case ho => k_is); (case hb => rfl); (case hc => rfl))); intro _ _ _ _ _ _ _ _ _ _ _ _ _ _ _ _ _ _ _ _ _ _ _ _ _ _)
  intro hret
  k_steps
  exact hret _ _ _ _ _ (by assumption) (by assumption) (DateR.mk (Keeps.cons (Keeps.refl _)) e)

theorem d19 (w : World) (m : Str → Option Value) (L' Va : Addr) (good : Bool) (x : Str) (tx ts : Tok) (sh month clock off v0 v1 v2 v3 v4 v5 : Int) (c1 : Tok) (c0 c2 b4 b5 b6 b7 b8 b9 : Tok) (n : Nat) (news : List (Addr × Obj))
  (h1 : m (Str.ofString "text") = some (.str x tx)) (h3 : m (Str.ofString "values") = some (.ref Va)) (h4 : m (Str.ofString "month") = some (.int month c0)) (h5 : m (Str.ofString "clock") = some (.int clock c1)) (h6 : m (Str.ofString "offset") = some (.int off c2)) (h7 : m (Str.ofString "shift") = some (.int sh ts)) (hm : 0 ≤ month) (hm2 : month < 24) (hcl : 0 ≤ clock) (hcl2 : clock < 8) (hv : 0 ≤ v1) (hv2 : v1 < 100000000000000000000) (hg : good = true) (hs : (99 < v1 ∧ sh = 0) ∨ (¬ 99 < v1 ∧ 68 < v1 ∧ sh = 1900) ∨ (¬ 99 < v1 ∧ ¬ 68 < v1 ∧ sh = 2000)) :
    RunsX w 64 L' 19 m ((Va, W.listOf #[.int v0 b4, .int v1 b5, .int v2 b6, .int v3 b7, .int v4 b8, .int v5 b9] n) :: news) 3 (DateR x (dueOf good month clock off v0 v1 v2 v3 v4) news) := by
  ((k_dflt (refine' RunsX.intro (cls := [(Str.ofString "zoned", _ + 3), (Str.ofString "parts", _ + 2), (Str.ofString "zeros", _ + 1)]) ?ho ?hb ?hc ?_; (case ho => k_is); (case hb => rfl); (case hc => rfl))); intro _ _ _ _ _ _ _ _ _ _ _ _ _ _ _ _ _ _ _ _ _ _ _ _ _ _)
  intro hret
  refine execs_step ?_
  k_steps
  all_goals (
    refine Hold.mk ?_
    refine @RunsX.use w 64 L' 20 _ _ _ _ _ _ _ _ _ _ _ _ _ _ _ _ _ _ _ _ _ _ _ _ _ _ _ _ _ _ _ _ _ _ _ _ _ _ _ (by k_asm) (by k_asm) (by assumption) (by assumption) (by assumption) (by assumption) (by assumption) (by assumption) (by k_is) (by rfl) (by rfl) (d20 w _ L' Va x tx ts _ (dueOf good month clock off v0 v1 v2 v3 v4) sh _ month off v0 v1 v2 v3 v4 v5 c0 c2 b4 b5 b6 b7 b8 b9 n news (by first | rfl | assumption) (by first | rfl | assumption) (by first | rfl | assumption) (by first | rfl | assumption) (by first | rfl | assumption) (by rfl) hm hm2 hv hv2 (due_eq hg hs (by first | exact .inl ⟨by assumption, rfl⟩ | exact .inr ⟨by assumption, rfl⟩))) ?_
    exact hret)

theorem d18 (w : World) (m : Str → Option Value) (L' Va : Addr) (good : Bool) (x : Str) (tx : Tok) (month clock off v0 v1 v2 v3 v4 v5 : Int) (c1 : Tok) (c0 c2 b4 b5 b6 b7 b8 b9 : Tok) (n : Nat) (news : List (Addr × Obj))
  (h1 : m (Str.ofString "text") = some (.str x tx)) (h3 : m (Str.ofString "values") = some (.ref Va)) (h4 : m (Str.ofString "month") = some (.int month c0)) (h5 : m (Str.ofString "clock") = some (.int clock c1)) (h6 : m (Str.ofString "offset") = some (.int off c2)) (hm : 0 ≤ month) (hm2 : month < 24) (hcl : 0 ≤ clock) (hcl2 : clock < 8) (hv : 0 ≤ v1) (hv2 : v1 < 100000000000000000000) (hg : good = true) :
    RunsX w 64 L' 18 m ((Va, W.listOf #[.int v0 b4, .int v1 b5, .int v2 b6, .int v3 b7, .int v4 b8, .int v5 b9] n) :: news) 3 (DateR x (dueOf good month clock off v0 v1 v2 v3 v4) news) := by
  ((k_dflt (refine' RunsX.intro (cls := [(Str.ofString "zoned", _ + 3), (Str.ofString "parts", _ + 2), (Str.ofString "zeros", _ + 1)]) ?ho ?hb ?hc ?_; (case ho => k_is); (case hb => rfl); (case hc => rfl))); intro _ _ _ _ _ _ _ _ _ _ _ _ _ _ _ _ _ _ _ _ _ _ _ _ _ _)
  intro hret
  refine execs_step ?_
  k_steps
  all_goals (
    refine Hold.mk ?_
    refine @RunsX.use w 64 L' 19 _ _ _ _ _ _ _ _ _ _ _ _ _ _ _ _ _ _ _ _ _ _ _ _ _ _ _ _ _ _ _ _ _ _ _ _ _ _ _ (by k_asm) (by k_asm) (by assumption) (by assumption) (by assumption) (by assumption) (by assumption) (by assumption) (by k_is) (by rfl) (by rfl) (d19 w _ L' Va good x tx _ _ month clock off v0 v1 v2 v3 v4 v5 c1 c0 c2 b4 b5 b6 b7 b8 b9 n news (by first | rfl | assumption) (by first | rfl | assumption) (by first | rfl | assumption) (by first | rfl | assumption) (by first | rfl | assumption) (by rfl) hm hm2 hcl hcl2 hv hv2 hg (by first | exact .inl ⟨by assumption, rfl⟩ | exact .inr (.inl ⟨by assumption, by assumption, rfl⟩) | exact .inr (.inr ⟨by assumption, by assumption, rfl⟩))) ?_
    exact hret)

theorem d17 (w : World) (m : Str → Option Value) (L' Va : Addr) (good : Bool) (x : Str) (tx : Tok) (month clock off v0 v1 v2 v3 v4 v5 : Int) (c0 c1 c2 b4 b5 b6 b7 b8 b9 : Tok) (n : Nat) (news : List (Addr × Obj))
  (h1 : m (Str.ofString "text") = some (.str x tx)) (h2 : m (Str.ofString "good") = some (.bool good)) (h3 : m (Str.ofString "values") = some (.ref Va)) (h4 : m (Str.ofString "month") = some (.int month c0)) (h5 : m (Str.ofString "clock") = some (.int clock c1)) (h6 : m (Str.ofString "offset") = some (.int off c2)) (hm : 0 ≤ month) (hm2 : month < 24) (hcl : 0 ≤ clock) (hcl2 : clock < 8) (hv : 0 ≤ v1) (hv2 : v1 < 100000000000000000000) :
    RunsX w 64 L' 17 m ((Va, W.listOf #[.int v0 b4, .int v1 b5, .int v2 b6, .int v3 b7, .int v4 b8, .int v5 b9] n) :: news) 3 (DateR x (dueOf good month clock off v0 v1 v2 v3 v4) news) := by
  ((k_dflt (refine' RunsX.intro (cls := [(Str.ofString "zoned", _ + 3), (Str.ofString "parts", _ + 2), (Str.ofString "zeros", _ + 1)]) ?ho ?hb ?hc ?_; (case ho => k_is); (case hb => rfl); (case hc => rfl))); intro _ _ _ _ _ _ _ _ _ _ _ _ _ _ _ _ _ _ _ _ _ _ _ _ _ _)
  intro hret
  cases good with
  | false =>
    k_steps
    exact hret _ _ _ _ _ (by assumption) (by assumption) ⟨Keeps.cons (Keeps.cons (Keeps.refl _)), _, _, _, rfl, .head _, rfl⟩
  | true =>
    refine execs_step ?_
    k_steps
    refine Hold.mk ?_
    refine @RunsX.use w 64 L' 18 _ _ _ _ _ _ _ _ _ _ _ _ _ _ _ _ _ _ _ _ _ _ _ _ _ _ _ _ _ _ _ _ _ _ _ _ _ _ _ (by k_asm) (by k_asm) (by assumption) (by assumption) (by assumption) (by assumption) (by assumption) (by assumption) (by k_is) (by rfl) (by rfl) (d18 w _ L' Va true x tx month clock off v0 v1 v2 v3 v4 v5 c1 c0 c2 b4 b5 b6 b7 b8 b9 n news h1 h3 h4 h5 h6 hm hm2 hcl hcl2 hv hv2 rfl) ?_
    exact hret
end
section
theorem reset18 : True := by
  k_with_none
  w_top off
  trivial
set_option maxRecDepth 100000
set_option maxHeartbeats 8000000
theorem strs_of : ∀ l : List (Str × Tok), StrsAre (strValues l) (l.map (·.1))
  | [] => .nil
  | p :: r => .cons p.1 p.2 (strs_of r)
noncomputable def sepTab : List Str := [Str.ofString " ", Str.ofString "\t", Str.ofString "\x0d\n ", Str.ofString "  "]
noncomputable def txtOf (white : Int) (ws : List Str) : Str := Txt.join (sepTab.getD (white.fmod 4).toNat Str.empty) (if white < 4 then ws else Str.ofString "" :: (ws ++ [Str.ofString ""]))

theorem sep_len (j : Nat) : (sepTab.getD j Str.empty).length ≤ 16 := by
  rcases j with _ | _ | _ | _ | j
  · decide +kernel
  · decide +kernel
  · decide +kernel
  · decide +kernel
  · show Str.empty.length ≤ 16
    decide +kernel
theorem sum_le (l : List Str) (B : Nat) (h : ∀ x ∈ l, x.length ≤ B) : (l.map (·.length)).sum + l.length ≤ l.length * (B + 1) := by
  have := StrLaws.sumLen_le l h
  rw [Nat.mul_add]; omega
theorem txt_eq1 {white : Int} {ws : List Str} (h : white < 4) : Txt.join ([Str.ofString " ", Str.ofString "\t", Str.ofString "\x0d\n ", Str.ofString "  "].getD (white.fmod 4).toNat Str.empty) ws = txtOf white ws := by
  unfold txtOf; rw [if_pos h]; rfl
theorem txt_eq2 {white : Int} {ws : List Str} (h : ¬ white < 4) : Txt.join ([Str.ofString " ", Str.ofString "\t", Str.ofString "\x0d\n ", Str.ofString "  "].getD (white.fmod 4).toNat Str.empty) (Str.ofString "" :: (ws ++ [Str.ofString ""])) = txtOf white ws := by
  unfold txtOf; rw [if_neg h]; rfl
theorem strs_snoc {z : Str} {t : Tok} : ∀ {vs : List Value} {ys : List Str}, StrsAre vs ys → StrsAre (vs ++ [.str z t]) (ys ++ [z])
  | _, _, .nil => .cons z t .nil
  | _, _, .cons y u r => .cons y u (strs_snoc r)
theorem d16 (w : World) (m : Str → Option Value) (L' Wo Va : Addr) (l : List (Str × Tok)) (white : Int) (c0 : Tok) (n n' : Nat) (good : Bool) (month clock off v0 v1 v2 v3 v4 v5 : Int) (c1 c2 c3 b4 b5 b6 b7 b8 b9 : Tok) (news : List (Addr × Obj)) (hl : l.length ≤ 10) (hll : ∀ p ∈ l, p.1.length ≤ 90) (hw : 0 ≤ white) (hw2 : white < 8)
  (h1 : m (Str.ofString "words") = some (.ref Wo)) (h2 : m (Str.ofString "white") = some (.int white c0)) (h3 : m (Str.ofString "good") = some (.bool good)) (h4 : m (Str.ofString "values") = some (.ref Va)) (h5 : m (Str.ofString "month") = some (.int month c1)) (h6 : m (Str.ofString "clock") = some (.int clock c2)) (h7 : m (Str.ofString "offset") = some (.int off c3)) (hm : 0 ≤ month) (hm2 : month < 24) (hcl : 0 ≤ clock) (hcl2 : clock < 8) (hv : 0 ≤ v1) (hv2 : v1 < 100000000000000000000) :
    RunsX w 64 L' 16 m ((Wo, W.listOf (strValues l).toArray n) :: (Va, W.listOf #[.int v0 b4, .int v1 b5, .int v2 b6, .int v3 b7, .int v4 b8, .int v5 b9] n') :: news) 3 (DateR (txtOf white (l.map (·.1))) (dueOf good month clock off v0 v1 v2 v3 v4) news) := by
  ((k_dflt (refine' RunsX.intro (cls := [(Str.ofString "zoned", _ + 3), (Str.ofString "parts", _ + 2), (Str.ofString "zeros", _ + 1)]) ?ho ?hb ?hc ?_; (case ho => k_is); (case hb => rfl); (case hc => rfl))); intro _ _ _ _ _ _ _ _ _ _ _ _ _ _ _ _ _ _ _ _ _ _ _ _ _ _)
  intro hret
  refine execs_step ?_
  (k_with "table" => skip)
  k_steps
  · refine join_listW (News.isList (by k_asm) (.tail _ (.head _))) (strs_of l) (sep_len _) ?_ ?_
    · refine Nat.le_trans (sum_le _ 90 ?_) ?_
      · intro x hx
        obtain ⟨p, hp, rfl⟩ := List.mem_map.mp hx
        exact hll p hp
      · rw [List.length_map]; omega
    intro _ _
    rw [txt_eq1 (by assumption)]
    k_steps
    refine Hold.mk ?_
    rename News _ _ _ _ => N9
    have N8 := cb_drop N9 (news := (Va, W.listOf #[.int v0 b4, .int v1 b5, .int v2 b6, .int v3 b7, .int v4 b8, .int v5 b9] n') :: news) (by intro p hp; repeat (first | exact hp | apply List.Mem.tail))
    clear N9
    refine @RunsX.use w 64 L' 17 _ _ _ _ _ _ _ _ _ _ _ _ _ _ _ _ _ _ _ _ _ _ _ _ _ _ _ _ _ _ _ _ _ _ _ _ _ _ _ (by k_asm) N8 (by assumption) (by assumption) (by assumption) (by assumption) (by assumption) (by assumption) (by k_is) (by rfl) (by rfl) (d17 w _ L' Va good _ _ month clock off v0 v1 v2 v3 v4 v5 c1 c2 c3 b4 b5 b6 b7 b8 b9 n' news (by rfl) (by assumption) (by assumption) (by assumption) (by assumption) (by assumption) hm hm2 hcl hcl2 hv hv2) ?_
    exact hret
  · refine kmk_add_lit (zs := Value.str (Str.ofString "") _ :: strValues l) (by k_asm) (by k_asm) (News.isList (by k_asm) (.head _)) (News.isList (by k_asm) (.tail _ (.tail _ (.head _)))) rfl ?_ ?_
    · intro D1 hp1 F1 N1 l1
      k_steps
      rename_i D2 hq2 F2 N2 l2
      refine kmk_add_lit (zs := Value.str (Str.ofString "") _ :: (strValues l ++ [Value.str (Str.ofString "") _])) (by k_asm) (by k_asm) (News.isList (by k_asm) (.tail _ (.head _))) (News.isList (by k_asm) (.head _)) rfl ?_ ?_
      · intro D3 hp3 F3 N3 l3
        k_steps
        refine join_listW (News.isList (by k_asm) (.head _)) (.cons _ _ (strs_snoc (strs_of l))) (sep_len _) ?_ ?_
        · refine Nat.le_trans (sum_le _ 90 ?_) ?_
          · intro x hx
            rcases List.mem_cons.mp hx with rfl | hx
            · decide +kernel
            · rcases List.mem_append.mp hx with hx | hx
              · obtain ⟨p, hp, rfl⟩ := List.mem_map.mp hx
                exact hll p hp
              · rw [List.mem_singleton.mp hx]; decide +kernel
          · simp only [List.length_cons, List.length_append, List.length_map, List.length_nil]; omega
        intro _ _
        rw [txt_eq2 (by assumption)]
        k_steps
        refine Hold.mk ?_
        rename News _ _ _ _ => N9
        have N8 := cb_drop N9 (news := (Va, W.listOf #[.int v0 b4, .int v1 b5, .int v2 b6, .int v3 b7, .int v4 b8, .int v5 b9] n') :: news) (by intro p hp; repeat (first | exact hp | apply List.Mem.tail))
        clear N9
        refine @RunsX.use w 64 L' 17 _ _ _ _ _ _ _ _ _ _ _ _ _ _ _ _ _ _ _ _ _ _ _ _ _ _ _ _ _ _ _ _ _ _ _ _ _ _ _ (by k_asm) N8 (by assumption) (by assumption) (by assumption) (by assumption) (by assumption) (by assumption) (by k_is) (by rfl) (by rfl) (d17 w _ L' Va good _ _ month clock off v0 v1 v2 v3 v4 v5 c1 c2 c3 b4 b5 b6 b7 b8 b9 n' news (by rfl) (by assumption) (by assumption) (by assumption) (by assumption) (by assumption) hm hm2 hcl hcl2 hv hv2) ?_
        exact hret
      · simp [strValues]; exact Nat.le_trans (show l.length + 1 + 1 ≤ 12 by omega) (by decide)
    · simp [strValues]; exact Nat.le_trans (show 1 + l.length ≤ 12 by omega) (by decide)
end
section
theorem reset19 : True := by
  k_with_none
  w_top off
  trivial
set_option maxRecDepth 100000
set_option maxHeartbeats 8000000
noncomputable def wkTab : List Str := [Str.ofString "Mon,", Str.ofString "Sunday,", Str.ofString "Mon", Str.ofString "tue", Str.ofString "WED", Str.ofString "tHU", Str.ofString "fri", Str.ofString "SAT", Str.ofString "Sun"]
theorem pick1 (v : Value) (vs : List Value) : (slicePick (v :: vs).toArray (some 1) none none).toList = vs := by
  have e : sliceBounds (some 1) none none (v :: vs).toArray.size = (((1 : Nat) : Int), ((vs.length + 1 : Nat) : Int), 1) := by
    simp [sliceBounds]
    try omega
  rw [kmk_pick_nat _ e]
  simp
noncomputable def wkW (week : Int) (ws : List Str) : List Str := if week = 1 then (match ws with | [] => [] | x :: r => (Str.ofString "Fri," ++ x) :: r) else if 1 < week then wkTab.getD (week - 2).toNat Str.empty :: ws else ws
theorem wkTab_len (j : Nat) : (wkTab.getD j Str.empty).length ≤ 80 := by
  rcases j with _ | _ | _ | _ | _ | _ | _ | _ | _ | j
  all_goals first | decide +kernel | (show Str.empty.length ≤ 80; decide +kernel)

theorem lenC {y : Str} {t : Tok} {r : List (Str × Tok)} {B : Nat} (h : y.length ≤ B) (hr : ∀ p ∈ r, p.1.length ≤ B) : ∀ p ∈ (y, t) :: r, p.1.length ≤ B := by
  intro p hp
  rcases List.mem_cons.mp hp with rfl | hp
  · exact h
  · exact hr p hp
theorem friLen {x : Str} (hx : x.length ≤ 80) : (Str.ofString "Fri," ++ x).length ≤ 90 := by
  rw [Str.length_append]
  have : (Str.ofString "Fri,").length = 4 := by decide +kernel
  omega
theorem len90 {r : List (Str × Tok)} (hr : ∀ p ∈ r, p.1.length ≤ 80) : ∀ p ∈ r, p.1.length ≤ 90 := fun p hp => Nat.le_trans (hr p hp) (by decide)
theorem d15c (w : World) (m : Str → Option Value) (L' Wo Va : Addr) (x : Str) (tx : Tok) (r : List (Str × Tok)) (week : Int) (n n' : Nat) (good : Bool) (month clock off v0 v1 v2 v3 v4 v5 white : Int) (c0 c1 c2 c3 c4 b4 b5 b6 b7 b8 b9 : Tok) (news : List (Addr × Obj)) (hw : 0 ≤ week) (hw2 : week < 11) (hwh : 0 ≤ white) (hwh2 : white < 8)
  (h1 : m (Str.ofString "words") = some (.ref Wo)) (h2 : m (Str.ofString "week") = some (.int week c0)) (h8 : m (Str.ofString "white") = some (.int white c4)) (h3 : m (Str.ofString "good") = some (.bool good)) (h4 : m (Str.ofString "values") = some (.ref Va)) (h5 : m (Str.ofString "month") = some (.int month c1)) (h6 : m (Str.ofString "clock") = some (.int clock c2)) (h7 : m (Str.ofString "offset") = some (.int off c3)) (hm : 0 ≤ month) (hm2 : month < 24) (hcl : 0 ≤ clock) (hcl2 : clock < 8) (hv : 0 ≤ v1) (hv2 : v1 < 100000000000000000000) (hl : r.length ≤ 8) (hx : x.length ≤ 80) (hr : ∀ p ∈ r, p.1.length ≤ 80) :
    RunsX w 64 L' 15 m ((Wo, W.listOf (strValues ((x, tx) :: r)).toArray n) :: (Va, W.listOf #[.int v0 b4, .int v1 b5, .int v2 b6, .int v3 b7, .int v4 b8, .int v5 b9] n') :: news) 3 (DateR (txtOf white (wkW week (x :: r.map (·.1)))) (dueOf good month clock off v0 v1 v2 v3 v4) news) := by
  ((k_dflt (refine' RunsX.intro (cls := [(Str.ofString "zoned", _ + 3), (Str.ofString "parts", _ + 2), (Str.ofString "zeros", _ + 1)]) ?ho ?hb ?hc ?_; (case ho => k_is); (case hb => rfl); (case hc => rfl))); intro _ _ _ _ _ _ _ _ _ _ _ _ _ _ _ _ _ _ _ _ _ _ _ _ _ _)
  intro hret
  refine execs_step ?_
  (k_with "table" => skip)
  k_steps
  · refine ne_nil (News.isList (by k_asm) (.tail _ (.head _))) (News.isList (by k_asm) (.head _)) (by first | units_room | (show _ < cLine; simp only [Around.deeper, ktrTop]; omega)) ?_
    rw [show decide ((strValues ((x, tx) :: r)).toArray.size ≠ 0) = true by simp [strValues]]
    (k_with "subscriptTail Name Slice ref ref" => apply Hold.out)
    k_steps
    refine Hold.mk ?_
    k_with_none
    (k_with "table" => skip)
    refine' kmk_slice_lit (zs := strValues r) ?yyF ?yyN ?yyl ?yyp ?yyq ?yye ?_ ?yys ?yyt ?yyz
    case yyF => k_asm
    case yyN => k_asm
    case yyl => exact News.isList (by k_asm) (.tail _ (.tail _ (.head _)))
    case yyp => kmk_part
    case yyq => kmk_part
    case yye => exact pick1 _ _
    case yys => with_unfolding_all rfl
    case yyt => kmk_pure
    case yyz => first | kmk_size | (simp [strValues]; exact Nat.le_trans (show r.length + 1 ≤ 12 by omega) (by decide))
    intro D4 h4 F4 N4 l4
    refine kmk_add_lit (zs := Value.str (Str.ofString "Fri," ++ x) _ :: strValues r) (by k_asm) (by k_asm) (News.isList (by k_asm) (.tail _ (.head _))) (News.isList (by k_asm) (.head _)) rfl ?_ ?_
    · intro D5 h5 F5 N5 l5
      k_steps
      refine Hold.mk ?_
      rename News _ _ _ _ => N9
      have N8 := cb_drop N9 (news := (D5, W.listOf (strValues ((Str.ofString "Fri," ++ x, _) :: r)).toArray 0) :: (Va, W.listOf #[.int v0 b4, .int v1 b5, .int v2 b6, .int v3 b7, .int v4 b8, .int v5 b9] n') :: news) (by intro p hp; rcases List.mem_cons.mp hp with rfl | hp; exact .head _; repeat (first | exact hp | apply List.Mem.tail))
      clear N9
      dsimp only
      rw [show wkW week (x :: r.map (·.1)) = (((Str.ofString "Fri," ++ x, _) :: r)).map (·.1) by unfold wkW; rw [if_pos (by assumption)]; rfl] at hret
      refine @RunsX.use w 64 L' 16 _ _ _ _ _ _ _ _ _ _ _ _ _ _ _ _ _ _ _ _ _ _ _ _ _ _ _ _ _ _ _ _ _ _ _ _ _ _ _ (by k_asm) N8 (by assumption) (by assumption) (by assumption) (by assumption) (by assumption) (by assumption) (by k_is) (by rfl) (by rfl) (d16 w _ L' D5 Va ((Str.ofString "Fri," ++ x, _) :: r) white c4 0 n' good month clock off v0 v1 v2 v3 v4 v5 c1 c2 c3 b4 b5 b6 b7 b8 b9 news (by simp only [List.length_cons]; omega) (lenC (friLen hx) (len90 hr)) hwh hwh2 (by first | rfl | assumption) (by assumption) (by assumption) (by assumption) (by assumption) (by assumption) (by assumption) hm hm2 hcl hcl2 hv hv2) ?_
      exact hret
    · simp [strValues]; exact Nat.le_trans (show 1 + r.length ≤ 12 by omega) (by decide)
  · refine kmk_add_lit (zs := Value.str (wkTab.getD (week - 2).toNat Str.empty) _ :: strValues ((x, tx) :: r)) (by k_asm) (by k_asm) (News.isList (by k_asm) (.head _)) (News.isList (by k_asm) (.tail _ (.tail _ (.head _)))) rfl ?_ ?_
    · intro D5 h5 F5 N5 l5
      k_steps
      refine Hold.mk ?_
      rename News _ _ _ _ => N9
      have N8 := cb_drop N9 (news := (D5, W.listOf (strValues ((wkTab.getD (week - 2).toNat Str.empty, _) :: (x, tx) :: r)).toArray 0) :: (Va, W.listOf #[.int v0 b4, .int v1 b5, .int v2 b6, .int v3 b7, .int v4 b8, .int v5 b9] n') :: news) (by intro p hp; rcases List.mem_cons.mp hp with rfl | hp; exact .head _; repeat (first | exact hp | apply List.Mem.tail))
      clear N9
      dsimp only
      rw [show wkW week (x :: r.map (·.1)) = (((wkTab.getD (week - 2).toNat Str.empty, _) :: (x, tx) :: r)).map (·.1) by unfold wkW; rw [if_neg (by assumption), if_pos (by assumption)]; rfl] at hret
      refine @RunsX.use w 64 L' 16 _ _ _ _ _ _ _ _ _ _ _ _ _ _ _ _ _ _ _ _ _ _ _ _ _ _ _ _ _ _ _ _ _ _ _ _ _ _ _ (by k_asm) N8 (by assumption) (by assumption) (by assumption) (by assumption) (by assumption) (by assumption) (by k_is) (by rfl) (by rfl) (d16 w _ L' D5 Va ((wkTab.getD (week - 2).toNat Str.empty, _) :: (x, tx) :: r) white c4 0 n' good month clock off v0 v1 v2 v3 v4 v5 c1 c2 c3 b4 b5 b6 b7 b8 b9 news (by simp only [List.length_cons]; omega) (lenC (Nat.le_trans (wkTab_len _) (by decide)) (lenC (Nat.le_trans hx (by decide)) (len90 hr))) hwh hwh2 (by first | rfl | assumption) (by assumption) (by assumption) (by assumption) (by assumption) (by assumption) (by assumption) hm hm2 hcl hcl2 hv hv2) ?_
      exact hret
    · simp [strValues]; exact Nat.le_trans (show 1 + (r.length + 1) ≤ 12 by omega) (by decide)
  · refine Hold.mk ?_
    rename News _ _ _ _ => N9
    have N8 := cb_drop N9 (news := (Wo, W.listOf (strValues ((x, tx) :: r)).toArray n) :: (Va, W.listOf #[.int v0 b4, .int v1 b5, .int v2 b6, .int v3 b7, .int v4 b8, .int v5 b9] n') :: news) (by intro p hp; rcases List.mem_cons.mp hp with rfl | hp; exact .head _; repeat (first | exact hp | apply List.Mem.tail))
    clear N9
    dsimp only
    rw [show wkW week (x :: r.map (·.1)) = (((x, tx) :: r)).map (·.1) by unfold wkW; rw [if_neg (by assumption), if_neg (by assumption)]; rfl] at hret
    refine @RunsX.use w 64 L' 16 _ _ _ _ _ _ _ _ _ _ _ _ _ _ _ _ _ _ _ _ _ _ _ _ _ _ _ _ _ _ _ _ _ _ _ _ _ _ _ (by k_asm) N8 (by assumption) (by assumption) (by assumption) (by assumption) (by assumption) (by assumption) (by k_is) (by rfl) (by rfl) (d16 w _ L' Wo Va ((x, tx) :: r) white c4 n n' good month clock off v0 v1 v2 v3 v4 v5 c1 c2 c3 b4 b5 b6 b7 b8 b9 news (by simp only [List.length_cons]; omega) (lenC (Nat.le_trans hx (by decide)) (len90 hr)) hwh hwh2 (by first | rfl | assumption) (by assumption) (by assumption) (by assumption) (by assumption) (by assumption) (by assumption) hm hm2 hcl hcl2 hv hv2) ?_
    exact hret
end
section
theorem reset20 : True := by
  k_with_none
  w_top off
  trivial
set_option maxRecDepth 100000
set_option maxHeartbeats 8000000
theorem d15n (w : World) (m : Str → Option Value) (L' Wo Va : Addr) (week : Int) (n n' : Nat) (good : Bool) (month clock off v0 v1 v2 v3 v4 v5 white : Int) (c0 c1 c2 c3 c4 b4 b5 b6 b7 b8 b9 : Tok) (news : List (Addr × Obj)) (hw : 0 ≤ week) (hw2 : week < 11) (hwh : 0 ≤ white) (hwh2 : white < 8)
  (h1 : m (Str.ofString "words") = some (.ref Wo)) (h2 : m (Str.ofString "week") = some (.int week c0)) (h8 : m (Str.ofString "white") = some (.int white c4)) (h3 : m (Str.ofString "good") = some (.bool good)) (h4 : m (Str.ofString "values") = some (.ref Va)) (h5 : m (Str.ofString "month") = some (.int month c1)) (h6 : m (Str.ofString "clock") = some (.int clock c2)) (h7 : m (Str.ofString "offset") = some (.int off c3)) (hm : 0 ≤ month) (hm2 : month < 24) (hcl : 0 ≤ clock) (hcl2 : clock < 8) (hv : 0 ≤ v1) (hv2 : v1 < 100000000000000000000) :
    RunsX w 64 L' 15 m ((Wo, W.listOf (strValues []).toArray n) :: (Va, W.listOf #[.int v0 b4, .int v1 b5, .int v2 b6, .int v3 b7, .int v4 b8, .int v5 b9] n') :: news) 3 (DateR (txtOf white (wkW week [])) (dueOf good month clock off v0 v1 v2 v3 v4) news) := by
  ((k_dflt (refine' RunsX.intro (cls := [(Str.ofString "zoned", _ + 3), (Str.ofString "parts", _ + 2), (Str.ofString "zeros", _ + 1)]) ?ho ?hb ?hc ?_; (case ho => k_is); (case hb => rfl); (case hc => rfl))); intro _ _ _ _ _ _ _ _ _ _ _ _ _ _ _ _ _ _ _ _ _ _ _ _ _ _)
  intro hret
  refine execs_step ?_
  (k_with "table" => skip)
  k_steps
  all_goals (try ((with_reducible show wpAny _ _ (compareOp _ _ _) _ _ _); refine ne_nil (News.isList (by k_asm) (.tail _ (.head _))) (News.isList (by k_asm) (.head _)) (by first | units_room | (show _ < cLine; simp only [Around.deeper, ktrTop]; omega)) ?_; rw [show decide ((strValues []).toArray.size ≠ 0) = false by simp [strValues]]; k_steps))
  all_goals (
    refine Hold.mk ?_
    rename News _ _ _ _ => N9
    dsimp only
    first
      | (rw [show wkW week [] = ([] : List (Str × Tok)).map (·.1) by unfold wkW; first | (rw [if_pos (by assumption)]; rfl) | (rw [if_neg (by assumption), if_neg (by assumption)]; rfl)] at hret
         have N8 := cb_drop N9 (news := (Wo, W.listOf (strValues []).toArray n) :: (Va, W.listOf #[.int v0 b4, .int v1 b5, .int v2 b6, .int v3 b7, .int v4 b8, .int v5 b9] n') :: news) (by intro p hp; repeat (first | exact hp | apply List.Mem.tail))
         clear N9
         refine @RunsX.use w 64 L' 16 _ _ _ _ _ _ _ _ _ _ _ _ _ _ _ _ _ _ _ _ _ _ _ _ _ _ _ _ _ _ _ _ _ _ _ _ _ _ _ (by k_asm) N8 (by assumption) (by assumption) (by assumption) (by assumption) (by assumption) (by assumption) (by k_is) (by rfl) (by rfl) (d16 w _ L' Wo Va [] white c4 n n' good month clock off v0 v1 v2 v3 v4 v5 c1 c2 c3 b4 b5 b6 b7 b8 b9 news (by simp) (by intro p hp; cases hp) hwh hwh2 (by first | rfl | assumption) (by assumption) (by assumption) (by assumption) (by assumption) (by assumption) (by assumption) hm hm2 hcl hcl2 hv hv2) ?_
         exact hret)
      | (rw [show wkW week [] = [wkTab.getD (week - 2).toNat Str.empty] by unfold wkW; rw [if_neg (by assumption), if_pos (by assumption)]] at hret
         have N8 := cb_drop N9 (news := (_, W.listOf (strValues ((wkTab.getD (week - 2).toNat Str.empty, _) :: [])).toArray 0) :: (Va, W.listOf #[.int v0 b4, .int v1 b5, .int v2 b6, .int v3 b7, .int v4 b8, .int v5 b9] n') :: news) (by intro p hp; rcases List.mem_cons.mp hp with rfl | hp; exact .head _; repeat (first | exact hp | apply List.Mem.tail))
         clear N9
         refine @RunsX.use w 64 L' 16 _ _ _ _ _ _ _ _ _ _ _ _ _ _ _ _ _ _ _ _ _ _ _ _ _ _ _ _ _ _ _ _ _ _ _ _ _ _ _ (by k_asm) N8 (by assumption) (by assumption) (by assumption) (by assumption) (by assumption) (by assumption) (by k_is) (by rfl) (by rfl) (d16 w _ L' _ Va ((wkTab.getD (week - 2).toNat Str.empty, _) :: []) white c4 0 n' good month clock off v0 v1 v2 v3 v4 v5 c1 c2 c3 b4 b5 b6 b7 b8 b9 news (by simp only [List.length_cons]; decide) (lenC (Nat.le_trans (wkTab_len _) (by decide)) (by intro p hp; cases hp)) hwh hwh2 (by first | rfl | assumption) (by assumption) (by assumption) (by assumption) (by assumption) (by assumption) (by assumption) hm hm2 hcl hcl2 hv hv2) ?_
         exact hret))
theorem d15 (w : World) (m : Str → Option Value) (L' Wo Va : Addr) (l : List (Str × Tok)) (week : Int) (n n' : Nat) (good : Bool) (month clock off v0 v1 v2 v3 v4 v5 white : Int) (c0 c1 c2 c3 c4 b4 b5 b6 b7 b8 b9 : Tok) (news : List (Addr × Obj)) (hw : 0 ≤ week) (hw2 : week < 11) (hwh : 0 ≤ white) (hwh2 : white < 8)
  (h1 : m (Str.ofString "words") = some (.ref Wo)) (h2 : m (Str.ofString "week") = some (.int week c0)) (h8 : m (Str.ofString "white") = some (.int white c4)) (h3 : m (Str.ofString "good") = some (.bool good)) (h4 : m (Str.ofString "values") = some (.ref Va)) (h5 : m (Str.ofString "month") = some (.int month c1)) (h6 : m (Str.ofString "clock") = some (.int clock c2)) (h7 : m (Str.ofString "offset") = some (.int off c3)) (hm : 0 ≤ month) (hm2 : month < 24) (hcl : 0 ≤ clock) (hcl2 : clock < 8) (hv : 0 ≤ v1) (hv2 : v1 < 100000000000000000000) (hl : l.length ≤ 9) (hll : ∀ p ∈ l, p.1.length ≤ 80) :
    RunsX w 64 L' 15 m ((Wo, W.listOf (strValues l).toArray n) :: (Va, W.listOf #[.int v0 b4, .int v1 b5, .int v2 b6, .int v3 b7, .int v4 b8, .int v5 b9] n') :: news) 3 (DateR (txtOf white (wkW week (l.map (·.1)))) (dueOf good month clock off v0 v1 v2 v3 v4) news) := by
  rcases l with _ | ⟨⟨x, tx⟩, r⟩
  · exact d15n w m L' Wo Va week n n' good month clock off v0 v1 v2 v3 v4 v5 white c0 c1 c2 c3 c4 b4 b5 b6 b7 b8 b9 news hw hw2 hwh hwh2 h1 h2 h8 h3 h4 h5 h6 h7 hm hm2 hcl hcl2 hv hv2
  · exact d15c w m L' Wo Va x tx r week n n' good month clock off v0 v1 v2 v3 v4 v5 white c0 c1 c2 c3 c4 b4 b5 b6 b7 b8 b9 news hw hw2 hwh hwh2 h1 h2 h8 h3 h4 h5 h6 h7 hm hm2 hcl hcl2 hv hv2 (by simp only [List.length_cons] at hl; omega) (hll _ (.head _)) (fun p hp => hll p (.tail _ hp))
end
section
theorem reset21 : True := by
  k_with_none
  w_top off
  trivial
set_option maxRecDepth 100000
set_option maxHeartbeats 8000000
noncomputable def moreTab : List Str := [Str.ofString "(day", Str.ofString "light)"]
noncomputable def moreW (more : Int) (z : List Str) (ws : List Str) : List Str := ws ++ (if z = [] then [] else moreTab.take more.toNat)
theorem strv_app0 (l : List (Str × Tok)) : (strValues l).toArray.toList ++ (#[] : Array Value).toList = strValues (l ++ []) := by simp [strValues]
theorem strv_app1 (l : List (Str × Tok)) (a : Str) (ta : Tok) : (strValues l).toArray.toList ++ (#[Value.str a ta] : Array Value).toList = strValues (l ++ [(a, ta)]) := by simp [strValues]
theorem strv_app2 (l : List (Str × Tok)) (a b : Str) (ta tb : Tok) : (strValues l).toArray.toList ++ (#[Value.str a ta, Value.str b tb] : Array Value).toList = strValues (l ++ [(a, ta), (b, tb)]) := by simp [strValues]
theorem lenA {l r : List (Str × Tok)} {B : Nat} (h : ∀ p ∈ l, p.1.length ≤ B) (hr : ∀ p ∈ r, p.1.length ≤ B) : ∀ p ∈ l ++ r, p.1.length ≤ B := by
  intro p hp
  rcases List.mem_append.mp hp with hp | hp
  · exact h p hp
  · exact hr p hp
theorem len_nil {B : Nat} : ∀ p ∈ ([] : List (Str × Tok)), p.1.length ≤ B := by intro p hp; cases hp
theorem d14 (w : World) (m : Str → Option Value) (L' Wo Va Zo : Addr) (l lz : List (Str × Tok)) (week more : Int) (n n' nz : Nat) (good : Bool) (month clock off v0 v1 v2 v3 v4 v5 white : Int) (c0 c1 c2 c3 c4 c5 b4 b5 b6 b7 b8 b9 : Tok) (o3 : Obj) (news : List (Addr × Obj)) (hw : 0 ≤ week) (hw2 : week < 11) (hwh : 0 ≤ white) (hwh2 : white < 8) (hmo : 0 ≤ more) (hmo2 : more < 3) (hc3 : o3.data = .cell (some (.ref Zo)))
  (h1 : m (Str.ofString "words") = some (.ref Wo)) (h2 : m (Str.ofString "week") = some (.int week c0)) (h8 : m (Str.ofString "white") = some (.int white c4)) (h9 : m (Str.ofString "more") = some (.int more c5)) (h3 : m (Str.ofString "good") = some (.bool good)) (h4 : m (Str.ofString "values") = some (.ref Va)) (h5 : m (Str.ofString "month") = some (.int month c1)) (h6 : m (Str.ofString "clock") = some (.int clock c2)) (h7 : m (Str.ofString "offset") = some (.int off c3)) (hm : 0 ≤ month) (hm2 : month < 24) (hcl : 0 ≤ clock) (hcl2 : clock < 8) (hv : 0 ≤ v1) (hv2 : v1 < 100000000000000000000) (hl : l.length ≤ 7) (hll : ∀ p ∈ l, p.1.length ≤ 80) :
    RunsX w 64 L' 14 m ((Wo, W.listOf (strValues l).toArray n) :: (Va, W.listOf #[.int v0 b4, .int v1 b5, .int v2 b6, .int v3 b7, .int v4 b8, .int v5 b9] n') :: (Zo, W.listOf (strValues lz).toArray nz) :: (L' + 3, o3) :: news) 3 (DateR (txtOf white (wkW week (moreW more (lz.map (·.1)) (l.map (·.1))))) (dueOf good month clock off v0 v1 v2 v3 v4) news) := by
  ((k_dflt (refine' RunsX.intro (cls := [(Str.ofString "zoned", _ + 3), (Str.ofString "parts", _ + 2), (Str.ofString "zeros", _ + 1)]) ?ho ?hb ?hc ?_; (case ho => k_is); (case hb => rfl); (case hc => rfl))); intro _ _ _ _ _ _ _ _ _ _ _ _ _ _ _ _ _ _ _ _ _ _ _ _ _ _)
  intro hret
  refine execs_step ?_
  k_steps
  refine ne_nil (News.isList (by k_asm) (.tail _ (.tail _ (.tail _ (.head _))))) (News.isList (by k_asm) (.head _)) (by first | units_room | (show _ < cLine; simp only [Around.deeper, ktrTop]; omega)) ?_
  rcases lz with _ | ⟨z, lz⟩
  · rw [show decide ((strValues []).toArray.size ≠ 0) = false by simp [strValues]]
    k_steps
    refine kmk_add_lit (by k_asm) (by k_asm) (News.isList (by k_asm) (.tail _ (.tail _ (.head _)))) (News.isList (by k_asm) (.head _)) (strv_app0 l) ?_ ?_
    · intro D5 h5 F5 N5 l5
      k_steps
      refine Hold.mk ?_
      rename News _ _ _ _ => N9
      have N8 := cb_drop N9 (news := (D5, W.listOf (strValues (l ++ [])).toArray 0) :: (Va, W.listOf #[.int v0 b4, .int v1 b5, .int v2 b6, .int v3 b7, .int v4 b8, .int v5 b9] n') :: news) (by intro p hp; rcases List.mem_cons.mp hp with rfl | hp; exact .head _; rcases List.mem_cons.mp hp with rfl | hp; (repeat (first | exact List.Mem.head _ | apply List.Mem.tail)); repeat (first | exact hp | apply List.Mem.tail))
      clear N9
      dsimp only
      refine @RunsX.use w 64 L' 15 _ _ _ _ _ _ _ _ _ _ _ _ _ _ _ _ _ _ _ _ _ _ _ _ _ _ _ _ _ _ _ _ _ _ _ _ _ _ _ (by k_asm) N8 (by assumption) (by assumption) (by assumption) (by assumption) (by assumption) (by assumption) (by k_is) (by rfl) (by rfl) (d15 w _ L' D5 Va (l ++ []) week 0 n' good month clock off v0 v1 v2 v3 v4 v5 white c0 c1 c2 c3 c4 b4 b5 b6 b7 b8 b9 news hw hw2 hwh hwh2 (by first | rfl | assumption) (by assumption) (by assumption) (by assumption) (by assumption) (by assumption) (by assumption) (by assumption) hm hm2 hcl hcl2 hv hv2 (by rw [List.length_append]; simp only [List.length_cons, List.length_nil]; omega) (lenA hll (len_nil))) ?_
      intro v nw' m' h' tk' F' N' r
      refine hret v nw' m' h' tk' F' N' ?_
      rw [List.map_append] at r
      exact r
    · simp only [strValues, List.length_map, List.length_append, List.length_cons, List.length_nil, List.size_toArray]; exact Nat.le_trans (show _ ≤ 12 by omega) (by decide)
  · rw [show decide ((strValues (z :: lz)).toArray.size ≠ 0) = true by simp [strValues]]
    have hm3 : more = 0 ∨ more = 1 ∨ more = 2 := by omega
    rcases hm3 with rfl | rfl | rfl
    · k_steps
      refine kmk_add_lit (by k_asm) (by k_asm) (News.isList (by k_asm) (.tail _ (.tail _ (.tail _ (.head _))))) (News.isList (by k_asm) (.head _)) (strv_app0 l) ?_ ?_
      · intro D5 h5 F5 N5 l5
        k_steps
        refine Hold.mk ?_
        rename News _ _ _ _ => N9
        have N8 := cb_drop N9 (news := (D5, W.listOf (strValues (l ++ [])).toArray 0) :: (Va, W.listOf #[.int v0 b4, .int v1 b5, .int v2 b6, .int v3 b7, .int v4 b8, .int v5 b9] n') :: news) (by intro p hp; rcases List.mem_cons.mp hp with rfl | hp; exact .head _; rcases List.mem_cons.mp hp with rfl | hp; (repeat (first | exact List.Mem.head _ | apply List.Mem.tail)); repeat (first | exact hp | apply List.Mem.tail))
        clear N9
        dsimp only
        refine @RunsX.use w 64 L' 15 _ _ _ _ _ _ _ _ _ _ _ _ _ _ _ _ _ _ _ _ _ _ _ _ _ _ _ _ _ _ _ _ _ _ _ _ _ _ _ (by k_asm) N8 (by assumption) (by assumption) (by assumption) (by assumption) (by assumption) (by assumption) (by k_is) (by rfl) (by rfl) (d15 w _ L' D5 Va (l ++ []) week 0 n' good month clock off v0 v1 v2 v3 v4 v5 white c0 c1 c2 c3 c4 b4 b5 b6 b7 b8 b9 news hw hw2 hwh hwh2 (by first | rfl | assumption) (by assumption) (by assumption) (by assumption) (by assumption) (by assumption) (by assumption) (by assumption) hm hm2 hcl hcl2 hv hv2 (by rw [List.length_append]; simp only [List.length_cons, List.length_nil]; omega) (lenA hll (len_nil))) ?_
        intro v nw' m' h' tk' F' N' r
        refine hret v nw' m' h' tk' F' N' ?_
        rw [List.map_append] at r
        exact r
      · simp only [strValues, List.length_map, List.length_append, List.length_cons, List.length_nil, List.size_toArray]; exact Nat.le_trans (show _ ≤ 12 by omega) (by decide)
    · k_steps
      refine kmk_add_lit (by k_asm) (by k_asm) (News.isList (by k_asm) (.tail _ (.tail _ (.tail _ (.head _))))) (News.isList (by k_asm) (.head _)) (strv_app1 l _ _) ?_ ?_
      · intro D5 h5 F5 N5 l5
        k_steps
        refine Hold.mk ?_
        rename News _ _ _ _ => N9
        have N8 := cb_drop N9 (news := (D5, W.listOf (strValues (l ++ [(Str.ofString "(day", _)])).toArray 0) :: (Va, W.listOf #[.int v0 b4, .int v1 b5, .int v2 b6, .int v3 b7, .int v4 b8, .int v5 b9] n') :: news) (by intro p hp; rcases List.mem_cons.mp hp with rfl | hp; exact .head _; rcases List.mem_cons.mp hp with rfl | hp; (repeat (first | exact List.Mem.head _ | apply List.Mem.tail)); repeat (first | exact hp | apply List.Mem.tail))
        clear N9
        dsimp only
        refine @RunsX.use w 64 L' 15 _ _ _ _ _ _ _ _ _ _ _ _ _ _ _ _ _ _ _ _ _ _ _ _ _ _ _ _ _ _ _ _ _ _ _ _ _ _ _ (by k_asm) N8 (by assumption) (by assumption) (by assumption) (by assumption) (by assumption) (by assumption) (by k_is) (by rfl) (by rfl) (d15 w _ L' D5 Va (l ++ [(Str.ofString "(day", _)]) week 0 n' good month clock off v0 v1 v2 v3 v4 v5 white c0 c1 c2 c3 c4 b4 b5 b6 b7 b8 b9 news hw hw2 hwh hwh2 (by first | rfl | assumption) (by assumption) (by assumption) (by assumption) (by assumption) (by assumption) (by assumption) (by assumption) hm hm2 hcl hcl2 hv hv2 (by rw [List.length_append]; simp only [List.length_cons, List.length_nil]; omega) (lenA hll (lenC (by decide +kernel) len_nil))) ?_
        intro v nw' m' h' tk' F' N' r
        refine hret v nw' m' h' tk' F' N' ?_
        rw [List.map_append] at r
        exact r
      · simp only [strValues, List.length_map, List.length_append, List.length_cons, List.length_nil, List.size_toArray]; exact Nat.le_trans (show _ ≤ 12 by omega) (by decide)
    · k_steps
      refine kmk_add_lit (by k_asm) (by k_asm) (News.isList (by k_asm) (.tail _ (.tail _ (.tail _ (.head _))))) (News.isList (by k_asm) (.head _)) (strv_app2 l _ _ _ _) ?_ ?_
      · intro D5 h5 F5 N5 l5
        k_steps
        refine Hold.mk ?_
        rename News _ _ _ _ => N9
        have N8 := cb_drop N9 (news := (D5, W.listOf (strValues (l ++ [(Str.ofString "(day", _), (Str.ofString "light)", _)])).toArray 0) :: (Va, W.listOf #[.int v0 b4, .int v1 b5, .int v2 b6, .int v3 b7, .int v4 b8, .int v5 b9] n') :: news) (by intro p hp; rcases List.mem_cons.mp hp with rfl | hp; exact .head _; rcases List.mem_cons.mp hp with rfl | hp; (repeat (first | exact List.Mem.head _ | apply List.Mem.tail)); repeat (first | exact hp | apply List.Mem.tail))
        clear N9
        dsimp only
        refine @RunsX.use w 64 L' 15 _ _ _ _ _ _ _ _ _ _ _ _ _ _ _ _ _ _ _ _ _ _ _ _ _ _ _ _ _ _ _ _ _ _ _ _ _ _ _ (by k_asm) N8 (by assumption) (by assumption) (by assumption) (by assumption) (by assumption) (by assumption) (by k_is) (by rfl) (by rfl) (d15 w _ L' D5 Va (l ++ [(Str.ofString "(day", _), (Str.ofString "light)", _)]) week 0 n' good month clock off v0 v1 v2 v3 v4 v5 white c0 c1 c2 c3 c4 b4 b5 b6 b7 b8 b9 news hw hw2 hwh hwh2 (by first | rfl | assumption) (by assumption) (by assumption) (by assumption) (by assumption) (by assumption) (by assumption) (by assumption) hm hm2 hcl hcl2 hv hv2 (by rw [List.length_append]; simp only [List.length_cons, List.length_nil]; omega) (lenA hll (lenC (by decide +kernel) (lenC (by decide +kernel) len_nil)))) ?_
        intro v nw' m' h' tk' F' N' r
        refine hret v nw' m' h' tk' F' N' ?_
        rw [List.map_append] at r
        exact r
      · simp only [strValues, List.length_map, List.length_append, List.length_cons, List.length_nil, List.size_toArray]; exact Nat.le_trans (show _ ≤ 12 by omega) (by decide)
end
section
theorem reset22 : True := by
  k_with_none
  w_top off
  trivial
set_option maxRecDepth 100000
set_option maxHeartbeats 8000000
open PyProof.Rows.LCg
noncomputable def pick5 (l0 l1 l2 l3 lz : List (Str × Tok)) (k : Int) : List (Str × Tok) := [l0, l1, l2, l3, lz].getD k.toNat []
noncomputable def pickV (l0 l1 l2 l3 lz : List (Str × Tok)) (v : Value) : List Value := match v with
  | .int k _ => strValues (pick5 l0 l1 l2 l3 lz k)
  | _ => []
theorem pick_flat (l0 l1 l2 l3 lz : List (Str × Tok)) (ord : List (Int × Tok)) : ((iVals ord).map (pickV l0 l1 l2 l3 lz)).flatten = strValues ((ord.map (fun p => pick5 l0 l1 l2 l3 lz p.1)).flatten) := by
  induction ord with
  | nil => rfl
  | cons p r ih =>
    show (pickV l0 l1 l2 l3 lz (.int p.1 p.2)) ++ ((iVals r).map (pickV l0 l1 l2 l3 lz)).flatten = _
    rw [ih]
    show strValues _ ++ strValues _ = strValues (_ ++ _)
    simp [strValues, pick5]
theorem d13 (w : World) (m : Str → Option Value) (L' Or Va Zo Pa A0 A1 A2 A3 : Addr) (ord : List (Int × Tok)) (l0 l1 l2 l3 lz : List (Str × Tok)) (week more : Int) (n n' nz np n0 n1 n2 n3 : Nat) (good : Bool) (month clock off v0 v1 v2 v3 v4 v5 white : Int) (c0 c1 c2 c3 c4 c5 b4 b5 b6 b7 b8 b9 : Tok) (o2 o3 : Obj) (news : List (Addr × Obj)) (hw : 0 ≤ week) (hw2 : week < 11) (hwh : 0 ≤ white) (hwh2 : white < 8) (hmo : 0 ≤ more) (hmo2 : more < 3) (hc2 : o2.data = .cell (some (.ref Pa))) (hc3 : o3.data = .cell (some (.ref Zo)))
  (hor : ∀ p ∈ ord, 0 ≤ p.1 ∧ p.1 < 5)
  (h1 : m (Str.ofString "order") = some (.ref Or)) (h2 : m (Str.ofString "week") = some (.int week c0)) (h8 : m (Str.ofString "white") = some (.int white c4)) (h9 : m (Str.ofString "more") = some (.int more c5)) (h3 : m (Str.ofString "good") = some (.bool good)) (h4 : m (Str.ofString "values") = some (.ref Va)) (h5 : m (Str.ofString "month") = some (.int month c1)) (h6 : m (Str.ofString "clock") = some (.int clock c2)) (h7 : m (Str.ofString "offset") = some (.int off c3)) (hm : 0 ≤ month) (hm2 : month < 24) (hcl : 0 ≤ clock) (hcl2 : clock < 8) (hv : 0 ≤ v1) (hv2 : v1 < 100000000000000000000) (hl : ((ord.map (fun p => pick5 l0 l1 l2 l3 lz p.1)).flatten).length ≤ 7) (hll : ∀ p ∈ (ord.map (fun p => pick5 l0 l1 l2 l3 lz p.1)).flatten, p.1.length ≤ 80) :
    RunsX w 64 L' 13 m ((Or, W.listOf (iVals ord).toArray n) :: (Va, W.listOf #[.int v0 b4, .int v1 b5, .int v2 b6, .int v3 b7, .int v4 b8, .int v5 b9] n') :: (Zo, W.listOf (strValues lz).toArray nz) :: (Pa, W.listOf #[.ref A0, .ref A1, .ref A2, .ref A3] np) :: (A0, W.listOf (strValues l0).toArray n0) :: (A1, W.listOf (strValues l1).toArray n1) :: (A2, W.listOf (strValues l2).toArray n2) :: (A3, W.listOf (strValues l3).toArray n3) :: (L' + 2, o2) :: (L' + 3, o3) :: news) 3
      (DateR (txtOf white (wkW week (moreW more (lz.map (·.1)) (((ord.map (fun p => pick5 l0 l1 l2 l3 lz p.1)).flatten).map (·.1))))) (dueOf good month clock off v0 v1 v2 v3 v4) news) := by
  ((k_dflt (refine' RunsX.intro (cls := [(Str.ofString "zoned", _ + 3), (Str.ofString "parts", _ + 2), (Str.ofString "zeros", _ + 1)]) ?ho ?hb ?hc ?_; (case ho => k_is); (case hb => rfl); (case hc => rfl))); intro _ _ _ _ _ _ _ _ _ _ _ _ _ _ _ _ _ _ _ _ _ _ _ _ _ _)
  intro hret
  refine execs_step ?_
  k_dflt (refine Assign_flat (by k_asm) (by rfl) (by with_unfolding_all rfl) (by with_unfolding_all rfl) (by decide) (by rfl) (by decide) (by rfl) (by rfl) (by decide) (by intro _ _; rfl) (by rfl) (by rfl) ?_)
  k_steps
  refine FlatOf.mk (pickV l0 l1 l2 l3 lz) (by rfl) (by k_asm) (by k_asm) (.head _) ?_ ?_ ?_
  · rw [pick_flat]
    simp only [strValues, List.length_map]
    exact Nat.le_trans hl (by decide)
  · intro v hvm ys I oI C oC D m₂ h tk E' hC hk F N off ne
    obtain ⟨p, hp, rfl⟩ := List.mem_map.mp hvm
    obtain ⟨hp0, hp5⟩ := hor p hp
    obtain ⟨k, t⟩ := p
    dsimp only at hp0 hp5 hk ⊢
    obtain ⟨X, nx, e1, e2⟩ : ∃ X nx, (#[Value.ref A0, .ref A1, .ref A2, .ref A3, .ref Zo] : Array Value)[k.toNat]? = some (.ref X) ∧ (X, W.listOf (strValues (pick5 l0 l1 l2 l3 lz k)).toArray nx) ∈ (Or, W.listOf (iVals ord).toArray n) :: (Va, W.listOf #[.int v0 b4, .int v1 b5, .int v2 b6, .int v3 b7, .int v4 b8, .int v5 b9] n') :: (Zo, W.listOf (strValues lz).toArray nz) :: (Pa, W.listOf #[.ref A0, .ref A1, .ref A2, .ref A3] np) :: (A0, W.listOf (strValues l0).toArray n0) :: (A1, W.listOf (strValues l1).toArray n1) :: (A2, W.listOf (strValues l2).toArray n2) :: (A3, W.listOf (strValues l3).toArray n3) :: (L' + 2, o2) :: (L' + 3, o3) :: news := by
      have hk5 : k = 0 ∨ k = 1 ∨ k = 2 ∨ k = 3 ∨ k = 4 := by omega
      rcases hk5 with rfl | rfl | rfl | rfl | rfl
      · exact ⟨A0, n0, rfl, (.tail _ (.tail _ (.tail _ (.tail _ (.head _)))))⟩
      · exact ⟨A1, n1, rfl, (.tail _ (.tail _ (.tail _ (.tail _ (.tail _ (.head _))))))⟩
      · exact ⟨A2, n2, rfl, (.tail _ (.tail _ (.tail _ (.tail _ (.tail _ (.tail _ (.head _)))))))⟩
      · exact ⟨A3, n3, rfl, (.tail _ (.tail _ (.tail _ (.tail _ (.tail _ (.tail _ (.tail _ (.head _))))))))⟩
      · exact ⟨Zo, nz, rfl, (.tail _ (.tail _ (.head _)))⟩
    k_steps
    refine item_list (News.isList (by k_asm) (.head _)) hp0 (by omega) e1 ?_
    rename News _ _ _ _ => N9
    exact Pick.mk (by k_asm) N9 (fun _ hp => .tail _ (.tail _ hp)) e2
  · rw [pick_flat]
    intro D h tk F N o1
    refine Hold.mk ?_
    have N8 := cb_drop N (news := (D, W.listOf (strValues ((ord.map (fun p => pick5 l0 l1 l2 l3 lz p.1)).flatten)).toArray (strValues ((ord.map (fun p => pick5 l0 l1 l2 l3 lz p.1)).flatten)).length) :: (Va, W.listOf #[.int v0 b4, .int v1 b5, .int v2 b6, .int v3 b7, .int v4 b8, .int v5 b9] n') :: (Zo, W.listOf (strValues lz).toArray nz) :: (L' + 3, o3) :: news) (by
      intro p hp
      rcases List.mem_cons.mp hp with rfl | hp
      · exact .head _
      · rcases List.mem_cons.mp hp with rfl | hp
        · exact .tail _ (.tail _ (.head _))
        · rcases List.mem_cons.mp hp with rfl | hp
          · exact .tail _ (.tail _ (.tail _ (.head _)))
          · rcases List.mem_cons.mp hp with rfl | hp
            · exact (.tail _ (.tail _ (.tail _ (.tail _ (.tail _ (.tail _ (.tail _ (.tail _ (.tail _ (.tail _ (.head _)))))))))))
            · exact (.tail _ (.tail _ (.tail _ (.tail _ (.tail _ (.tail _ (.tail _ (.tail _ (.tail _ (.tail _ (.tail _ hp))))))))))))
    clear N
    dsimp only
    refine @RunsX.use w 64 L' 14 _ _ _ _ _ _ _ _ _ _ _ _ _ _ _ _ _ _ _ _ _ _ _ _ _ _ _ _ _ _ _ _ _ _ _ _ _ _ _ F N8 (by assumption) (by assumption) (by assumption) (by assumption) (by assumption) (by assumption) (by k_is) (by rfl) (by rfl) (d14 w _ L' D Va Zo _ lz week more _ n' nz good month clock off v0 v1 v2 v3 v4 v5 white c0 c1 c2 c3 c4 c5 b4 b5 b6 b7 b8 b9 o3 news hw hw2 hwh hwh2 hmo hmo2 hc3 (by first | rfl | assumption) (by assumption) (by assumption) (by assumption) (by assumption) (by assumption) (by assumption) (by assumption) (by assumption) hm hm2 hcl hcl2 hv hv2 hl hll) ?_
    exact hret
end
section
set_option maxRecDepth 100000
set_option maxHeartbeats 8000000
theorem caseOf_q {x : Str} (h : Asc x) (way : Int) : caseOf x way = caseQ x way := by
  unfold caseOf caseQ
  rw [upper_q h, lower_q h, lower_q (asc_slice h _ _), upper_q (asc_slice h _ _)]
theorem zTab_asc : ∀ j, j < 16 → ∀ c ∈ (zTab.getD j (Str.ofString "", 0)).1.cps.toList, c < 128 := by decide +kernel
theorem zTab_caseQ : ∀ j, j < 16 → ∀ c : Fin 4, (caseQ (zTab.getD j (Str.ofString "", 0)).1 (c.val : Int)).length ≤ 10 := by decide +kernel
theorem zTab_case (j : Nat) (hj : j < 16) (c : Fin 4) : (caseOf (zTab.getD j (Str.ofString "", 0)).1 (c.val : Int)).length ≤ 10 := by
  rw [caseOf_q (zTab_asc j hj)]
  exact zTab_caseQ j hj c
theorem num_len {n : Int} (h : 0 ≤ n) (h2 : n < 100000000000000000000) : (Str.ofString (toString n)).length ≤ 20 := by
  rw [len_toList, show (Str.ofString (toString n)).cps.toList = dg n from sg_num h]
  exact dg_len h h2
theorem zTxt_len {way hours minutes cas : Int} {bare : Bool} {x : Str} (hh : 0 ≤ hours) (hh2 : hours < 100000000000000000000) (hm : 0 ≤ minutes) (hm2 : minutes < 100) (hc : 0 ≤ cas) (hc2 : cas < 4) (e : zTxt way hours minutes cas bare = some x) : x.length ≤ 80 := by
  unfold zTxt at e
  split at e
  · cases e
  · split at e
    · cases e
      obtain ⟨c, rfl⟩ := Int.eq_ofNat_of_zero_le hc
      have := zTab_case (hours % 16).toNat (by omega) ⟨c, by omega⟩
      unfold zName
      exact Nat.le_trans this (by decide)
    · cases e
      unfold zNum
      rw [Str.length_append, Str.length_append, Str.length_append]
      have e1 := num_len hh hh2
      have e2 := num_len hm (by omega)
      have e3 : (zSign way bare).length ≤ 1 := by
        unfold zSign
        split
        · decide +kernel
        · split <;> decide +kernel
      have e4 : (if minutes < 10 then Str.ofString "0" else Str.ofString "").length ≤ 1 := by split <;> decide +kernel
      omega
noncomputable def zl (x : Option Str) (t : Tok) : List (Str × Tok) := match x with | none => [] | some x => [(x, t)]
theorem zl_eq (x : Option Str) (t : Tok) : zoneList x t = (strValues (zl x t)).toArray := by cases x <;> rfl
theorem zl_map (x : Option Str) (t : Tok) : (zl x t).map (·.1) = x.toList := by cases x <;> rfl
/-- the words in their order -/
noncomputable def wordsOf (ord : List Int) (s0 s1 s2 s3 z : List Str) : List Str := (ord.map fun k => [s0, s1, s2, s3, z].getD k.toNat []).flatten
theorem pick_map (l0 l1 l2 l3 lz : List (Str × Tok)) (k : Int) : (pick5 l0 l1 l2 l3 lz k).map (·.1) = [l0.map (·.1), l1.map (·.1), l2.map (·.1), l3.map (·.1), lz.map (·.1)].getD k.toNat [] := by
  unfold pick5
  rcases k.toNat with _ | _ | _ | _ | _ | j <;> rfl
theorem pick_words (l0 l1 l2 l3 lz : List (Str × Tok)) (ord : List (Int × Tok)) : ((ord.map (fun p => pick5 l0 l1 l2 l3 lz p.1)).flatten).map (·.1) = wordsOf (ord.map (·.1)) (l0.map (·.1)) (l1.map (·.1)) (l2.map (·.1)) (l3.map (·.1)) (lz.map (·.1)) := by
  induction ord with
  | nil => rfl
  | cons p r ih =>
    rw [List.map_cons, List.flatten_cons, List.map_append, ih, pick_map]
    rfl
theorem pick_one {l0 l1 l2 l3 lz : List (Str × Tok)} {P : List (Str × Tok) → Prop} (h0 : P l0) (h1 : P l1) (h2 : P l2) (h3 : P l3) (hz : P lz) (hn : P []) (k : Int) : P (pick5 l0 l1 l2 l3 lz k) := by
  unfold pick5
  rcases k.toNat with _ | _ | _ | _ | _ | j
  · exact h0
  · exact h1
  · exact h2
  · exact h3
  · exact hz
  · exact hn
theorem flat_len {l0 l1 l2 l3 lz : List (Str × Tok)} (h0 : l0.length ≤ 1) (h1 : l1.length ≤ 1) (h2 : l2.length ≤ 1) (h3 : l3.length ≤ 1) (hz : lz.length ≤ 1) (ord : List (Int × Tok)) : ((ord.map (fun p => pick5 l0 l1 l2 l3 lz p.1)).flatten).length ≤ ord.length := by
  induction ord with
  | nil => exact Nat.le_refl _
  | cons p r ih =>
    rw [List.map_cons, List.flatten_cons, List.length_append, List.length_cons]
    have := pick_one (P := fun l => l.length ≤ 1) h0 h1 h2 h3 hz (by decide) p.1
    omega
theorem flat_mem {l0 l1 l2 l3 lz : List (Str × Tok)} (h0 : ∀ p ∈ l0, p.1.length ≤ 80) (h1 : ∀ p ∈ l1, p.1.length ≤ 80) (h2 : ∀ p ∈ l2, p.1.length ≤ 80) (h3 : ∀ p ∈ l3, p.1.length ≤ 80) (hz : ∀ p ∈ lz, p.1.length ≤ 80) (ord : List (Int × Tok)) : ∀ q ∈ ((ord.map (fun p => pick5 l0 l1 l2 l3 lz p.1)).flatten), q.1.length ≤ 80 := by
  intro q hq
  obtain ⟨l, hl, hq⟩ := List.mem_flatten.mp hq
  obtain ⟨p, _, rfl⟩ := List.mem_map.mp hl
  exact pick_one (P := fun l => ∀ p ∈ l, p.1.length ≤ 80) h0 h1 h2 h3 hz (by intro p hp; cases hp) p.1 q hq
theorem zl_len (x : Option Str) (t : Tok) : (zl x t).length ≤ 1 := by cases x <;> simp [zl]
theorem zl_mem {x : Option Str} {t : Tok} (h : ∀ y, x = some y → y.length ≤ 80) : ∀ p ∈ zl x t, p.1.length ≤ 80 := by
  intro p hp
  cases x with
  | none => cases hp
  | some y =>
    have : p = (y, t) := List.mem_singleton.mp hp
    rw [this]; exact h y rfl
end
section
theorem reset24 : True := by
  k_with_none
  w_top off
  trivial
set_option maxRecDepth 100000
set_option maxHeartbeats 8000000
theorem d12 (w : World) (m : Str → Option Value) (L' Or Va Pa A0 A1 A2 A3 : Addr) (ord : List (Int × Tok)) (l0 l1 l2 l3 : List (Str × Tok)) (form week more zone minutes cas : Int) (n n' np n0 n1 n2 n3 : Nat) (good : Bool) (month clock v0 v1 v2 v3 v4 v5 white : Int) (c0 c1 c2 c4 c5 c6 c7 c8 c9 b4 b5 b6 b7 b8 b9 : Tok) (o2 o3 : Obj) (v0c : Option Value) (news : List (Addr × Obj)) (hw : 0 ≤ week) (hw2 : week < 11) (hwh : 0 ≤ white) (hwh2 : white < 8) (hmo : 0 ≤ more) (hmo2 : more < 3) (hfo : 0 ≤ form) (hfo2 : form < 6) (hzo : 0 ≤ zone) (hzo2 : zone < 5) (hmi : 0 ≤ minutes) (hmi2 : minutes < 100) (hca : 0 ≤ cas) (hca2 : cas < 4) (hc2 : o2.data = .cell (some (.ref Pa))) (hc3 : o3.data = .cell v0c)
  (hor : ∀ p ∈ ord, 0 ≤ p.1 ∧ p.1 < 5)
  (h1 : m (Str.ofString "order") = some (.ref Or)) (h2 : m (Str.ofString "week") = some (.int week c0)) (h8 : m (Str.ofString "white") = some (.int white c4)) (h9 : m (Str.ofString "more") = some (.int more c5)) (h3 : m (Str.ofString "good") = some (.bool good)) (h4 : m (Str.ofString "values") = some (.ref Va)) (h5 : m (Str.ofString "month") = some (.int month c1)) (h6 : m (Str.ofString "clock") = some (.int clock c2)) (h10 : m (Str.ofString "form") = some (.int form c6)) (h11 : m (Str.ofString "zone") = some (.int zone c7)) (h12 : m (Str.ofString "minutes") = some (.int minutes c8)) (h13 : m (Str.ofString "case") = some (.int cas c9)) (hm : 0 ≤ month) (hm2 : month < 24) (hcl : 0 ≤ clock) (hcl2 : clock < 8) (hv : 0 ≤ v1) (hv2 : v1 < 100000000000000000000) (hv5 : 0 ≤ v5) (hv52 : v5 < 100000000000000000000)
  (hnl : ∀ p ∈ news, p.1 < L') (a1 : L' + 3 < Or) (a2 : L' + 3 < Va) (a3 : L' + 3 < Pa) (a4 : L' + 3 < A0) (a5 : L' + 3 < A1) (a6 : L' + 3 < A2) (a7 : L' + 3 < A3)
  (hol : ord.length ≤ 7) (hl0 : l0.length ≤ 1) (hl1 : l1.length ≤ 1) (hl2 : l2.length ≤ 1) (hl3 : l3.length ≤ 1) (hm0 : ∀ p ∈ l0, p.1.length ≤ 80) (hm1 : ∀ p ∈ l1, p.1.length ≤ 80) (hm22 : ∀ p ∈ l2, p.1.length ≤ 80) (hm3 : ∀ p ∈ l3, p.1.length ≤ 80) :
    RunsX w 64 L' 12 m ((Or, W.listOf (iVals ord).toArray n) :: (Va, W.listOf #[.int v0 b4, .int v1 b5, .int v2 b6, .int v3 b7, .int v4 b8, .int v5 b9] n') :: (Pa, W.listOf #[.ref A0, .ref A1, .ref A2, .ref A3] np) :: (A0, W.listOf (strValues l0).toArray n0) :: (A1, W.listOf (strValues l1).toArray n1) :: (A2, W.listOf (strValues l2).toArray n2) :: (A3, W.listOf (strValues l3).toArray n3) :: (L' + 2, o2) :: (L' + 3, o3) :: news) 3
      (DateR (txtOf white (wkW week (moreW more (zTxt zone v5 minutes cas (good && decide (form < 4))).toList (wordsOf (ord.map (·.1)) (l0.map (·.1)) (l1.map (·.1)) (l2.map (·.1)) (l3.map (·.1)) (zTxt zone v5 minutes cas (good && decide (form < 4))).toList)))) (dueOf good month clock (zOff zone v5 minutes) v0 v1 v2 v3 v4) news) := by
  ((k_dflt (refine' RunsX.intro (cls := [(Str.ofString "zoned", _ + 3), (Str.ofString "parts", _ + 2), (Str.ofString "zeros", _ + 1)]) ?ho ?hb ?hc ?_; (case ho => k_is); (case hb => rfl); (case hc => rfl))); intro _ _ _ _ _ _ _ _ _ _ _ _ _ _ _ _ _ _ _ _ _ _ _ _ _ _)
  intro hret
  refine execs_step ?_
  rcases good with _ | _
  all_goals (
    k_steps
    refine Calls.use (by obtain ⟨hy⟩ := k59 w zone v5 minutes cas _ _ _ _ _ ((Or, W.listOf (iVals ord).toArray n) :: (Va, W.listOf #[.int v0 b4, .int v1 b5, .int v2 b6, .int v3 b7, .int v4 b8, .int v5 b9] n') :: (Pa, W.listOf #[.ref A0, .ref A1, .ref A2, .ref A3] np) :: (A0, W.listOf (strValues l0).toArray n0) :: (A1, W.listOf (strValues l1).toArray n1) :: (A2, W.listOf (strValues l2).toArray n2) :: (A3, W.listOf (strValues l3).toArray n3) :: (L' + 2, o2) :: (L' + 3, o3) :: news) hzo hzo2 hv5 hv52 hmi hmi2 hca hca2; assumption) (by k_asm) (by k_asm) (by assumption) (by assumption) (by assumption) (by rfl) (by omega) (by omega) ?_
    intro v nw h' tk' F' N' r
    obtain ⟨kp, D, Z, t, tx, rfl, hD, hZ, lZ, lD⟩ := r
    have zZ : L' + 3 < Z := lZ (L' + 3, o3) (by exact List.mem_of_mem_drop (i := 8) (.head _))
    have zD : L' + 3 < D := lD (L' + 3, o3) (by exact List.mem_of_mem_drop (i := 8) (.head _))
    rw [zl_eq] at hZ
    have N2 := cb_drop N' (news := (D, ({ cls := Value.type "tuple", data := .seq #[.ref Z, .int (zOff zone v5 minutes) t] } : Obj)) :: (Z, W.listOf (strValues (zl (zTxt zone v5 minutes cas _) tx)).toArray 0) :: (Or, W.listOf (iVals ord).toArray n) :: (Va, W.listOf #[.int v0 b4, .int v1 b5, .int v2 b6, .int v3 b7, .int v4 b8, .int v5 b9] n') :: (Pa, W.listOf #[.ref A0, .ref A1, .ref A2, .ref A3] np) :: (A0, W.listOf (strValues l0).toArray n0) :: (A1, W.listOf (strValues l1).toArray n1) :: (A2, W.listOf (strValues l2).toArray n2) :: (A3, W.listOf (strValues l3).toArray n3) :: (L' + 2, o2) :: (L' + 3, o3) :: news) (fun p hp => by
      rcases List.mem_cons.mp hp with rfl | hp
      · exact hD
      · rcases List.mem_cons.mp hp with rfl | hp
        · exact hZ
        · exact kp p hp)
    clear N' kp hD hZ lZ lD
    k_steps
    refine storeX_C (c := L' + 3) (by k_asm) (by k_asm) rfl (.tail (Nat.ne_of_gt zD) (.tail (Nat.ne_of_gt zZ) (.tail (Nat.ne_of_gt a1) (.tail (Nat.ne_of_gt a2) (.tail (Nat.ne_of_gt a3) (.tail (Nat.ne_of_gt a4) (.tail (Nat.ne_of_gt a5) (.tail (Nat.ne_of_gt a6) (.tail (Nat.ne_of_gt a7) (.tail (Nat.ne_of_lt (Nat.lt_succ_self (L' + 2))) (.head (fun p hp => Nat.ne_of_lt (Nat.lt_of_lt_of_le (hnl p hp) (Nat.le_add_right _ _)))))))))))))) hc3 ?_
    intro h4 o4 F4 N4 hc4
    k_steps
    refine Hold.mk ?_
    rename News _ _ _ _ => N9
    have N8 := cb_drop N9 (news := (Or, W.listOf (iVals ord).toArray n) :: (Va, W.listOf #[.int v0 b4, .int v1 b5, .int v2 b6, .int v3 b7, .int v4 b8, .int v5 b9] n') :: (Z, W.listOf (strValues (zl (zTxt zone v5 minutes cas _) tx)).toArray 0) :: (Pa, W.listOf #[.ref A0, .ref A1, .ref A2, .ref A3] np) :: (A0, W.listOf (strValues l0).toArray n0) :: (A1, W.listOf (strValues l1).toArray n1) :: (A2, W.listOf (strValues l2).toArray n2) :: (A3, W.listOf (strValues l3).toArray n3) :: (L' + 2, o2) :: (L' + 3, o4) :: news) (by
      intro p hp
      rcases List.mem_cons.mp hp with rfl | hp
      · exact .tail _ (.tail _ (.head _))
      · rcases List.mem_cons.mp hp with rfl | hp
        · exact .tail _ (.tail _ (.tail _ (.head _)))
        · rcases List.mem_cons.mp hp with rfl | hp
          · exact .tail _ (.head _)
          · exact List.mem_of_mem_drop (i := 4) (hp))
    clear N9
    dsimp only
    refine @RunsX.use w 64 L' 13 _ _ _ _ _ _ _ _ _ _ _ _ _ _ _ _ _ _ _ _ _ _ _ _ _ _ _ _ _ _ _ _ _ _ _ _ _ _ _ (by k_asm) N8 (by assumption) (by assumption) (by assumption) (by assumption) (by assumption) (by assumption) (by k_is) (by rfl) (by rfl) (d13 w _ L' Or Va Z Pa A0 A1 A2 A3 ord l0 l1 l2 l3 (zl (zTxt zone v5 minutes cas _) tx) week more n n' 0 np n0 n1 n2 n3 _ month clock (zOff zone v5 minutes) v0 v1 v2 v3 v4 v5 white c0 c1 c2 t c4 c5 b4 b5 b6 b7 b8 b9 o2 o4 news hw hw2 hwh hwh2 hmo hmo2 hc2 hc4 hor (by first | rfl | assumption) (by assumption) (by assumption) (by assumption) (by assumption) (by assumption) (by assumption) (by assumption) (by rfl) hm hm2 hcl hcl2 hv hv2
      (Nat.le_trans (flat_len hl0 hl1 hl2 hl3 (zl_len _ _) ord) hol) (flat_mem hm0 hm1 hm22 hm3 (zl_mem (fun y e => zTxt_len hv5 hv52 hmi hmi2 hca hca2 e)) ord)) ?_
    rw [pick_words, zl_map]
    exact hret)
end
section
theorem reset25 : True := by
  k_with_none
  w_top off
  trivial
set_option maxRecDepth 100000
set_option maxHeartbeats 8000000
noncomputable def ordTab : List (List Int) := [[0, 1, 2, 3, 4], [1, 0, 2, 3, 4], [0, 1, 3, 2, 4], [1, 0, 3, 2, 4], [0, 1, 3, 4, 2], [1, 0, 3, 4, 2]]
theorem pick6 {h₀ h : Heap} {L c K x0 x1 x2 x3 x4 x5 : Addr} {t00 t01 t02 t03 t04 t10 t11 t12 t13 t14 t20 t21 t22 t23 t24 t30 t31 t32 t33 t34 t40 t41 t42 t43 t44 t50 t51 t52 t53 t54 : Tok} {rest : List (Addr × Obj)} (N : News h₀ L h ((K, W.listOf #[.ref x0, .ref x1, .ref x2, .ref x3, .ref x4, .ref x5] 0) :: (x5, W.listOf #[.int 1 t50, .int 0 t51, .int 3 t52, .int 4 t53, .int 2 t54] 0) :: (x4, W.listOf #[.int 0 t40, .int 1 t41, .int 3 t42, .int 4 t43, .int 2 t44] 0) :: (x3, W.listOf #[.int 1 t30, .int 0 t31, .int 3 t32, .int 2 t33, .int 4 t34] 0) :: (x2, W.listOf #[.int 0 t20, .int 1 t21, .int 3 t22, .int 2 t23, .int 4 t24] 0) :: (x1, W.listOf #[.int 1 t10, .int 0 t11, .int 2 t12, .int 3 t13, .int 4 t14] 0) :: (x0, W.listOf #[.int 0 t00, .int 1 t01, .int 2 t02, .int 3 t03, .int 4 t04] 0) :: rest))
    {form : Int} (hf : 0 ≤ form) (hf2 : form < 6) (g0 : c < x0) (g1 : c < x1) (g2 : c < x2) (g3 : c < x3) (g4 : c < x4) (g5 : c < x5) :
    ∃ X ord, (#[.ref x0, .ref x1, .ref x2, .ref x3, .ref x4, .ref x5] : Array Value)[form.toNat]? = some (.ref X) ∧ News h₀ L h ((X, W.listOf (iVals ord).toArray 0) :: rest) ∧ ord.map (·.1) = ordTab.getD form.toNat [] ∧ (∀ p ∈ ord, 0 ≤ p.1 ∧ p.1 < 5) ∧ ord.length ≤ 7 ∧ c < X := by
  have hk : form = 0 ∨ form = 1 ∨ form = 2 ∨ form = 3 ∨ form = 4 ∨ form = 5 := by omega
  rcases hk with rfl | rfl | rfl | rfl | rfl | rfl
  · refine ⟨x0, [(0, t00), (1, t01), (2, t02), (3, t03), (4, t04)], rfl, ?_, rfl, ?_, by simp, g0⟩
    · intro p hp
      rcases List.mem_cons.mp hp with rfl | hp
      · exact N _ (by (iterate 6 refine .tail _ ?_); exact .head _)
      · exact N p (by (iterate 7 refine .tail _ ?_); exact hp)
    · intro p hp
      simp only [List.mem_cons, List.not_mem_nil, or_false] at hp
      rcases hp with rfl | rfl | rfl | rfl | rfl <;> simp
  · refine ⟨x1, [(1, t10), (0, t11), (2, t12), (3, t13), (4, t14)], rfl, ?_, rfl, ?_, by simp, g1⟩
    · intro p hp
      rcases List.mem_cons.mp hp with rfl | hp
      · exact N _ (by (iterate 5 refine .tail _ ?_); exact .head _)
      · exact N p (by (iterate 7 refine .tail _ ?_); exact hp)
    · intro p hp
      simp only [List.mem_cons, List.not_mem_nil, or_false] at hp
      rcases hp with rfl | rfl | rfl | rfl | rfl <;> simp
  · refine ⟨x2, [(0, t20), (1, t21), (3, t22), (2, t23), (4, t24)], rfl, ?_, rfl, ?_, by simp, g2⟩
    · intro p hp
      rcases List.mem_cons.mp hp with rfl | hp
      · exact N _ (by (iterate 4 refine .tail _ ?_); exact .head _)
      · exact N p (by (iterate 7 refine .tail _ ?_); exact hp)
    · intro p hp
      simp only [List.mem_cons, List.not_mem_nil, or_false] at hp
      rcases hp with rfl | rfl | rfl | rfl | rfl <;> simp
  · refine ⟨x3, [(1, t30), (0, t31), (3, t32), (2, t33), (4, t34)], rfl, ?_, rfl, ?_, by simp, g3⟩
    · intro p hp
      rcases List.mem_cons.mp hp with rfl | hp
      · exact N _ (by (iterate 3 refine .tail _ ?_); exact .head _)
      · exact N p (by (iterate 7 refine .tail _ ?_); exact hp)
    · intro p hp
      simp only [List.mem_cons, List.not_mem_nil, or_false] at hp
      rcases hp with rfl | rfl | rfl | rfl | rfl <;> simp
  · refine ⟨x4, [(0, t40), (1, t41), (3, t42), (4, t43), (2, t44)], rfl, ?_, rfl, ?_, by simp, g4⟩
    · intro p hp
      rcases List.mem_cons.mp hp with rfl | hp
      · exact N _ (by (iterate 2 refine .tail _ ?_); exact .head _)
      · exact N p (by (iterate 7 refine .tail _ ?_); exact hp)
    · intro p hp
      simp only [List.mem_cons, List.not_mem_nil, or_false] at hp
      rcases hp with rfl | rfl | rfl | rfl | rfl <;> simp
  · refine ⟨x5, [(1, t50), (0, t51), (3, t52), (4, t53), (2, t54)], rfl, ?_, rfl, ?_, by simp, g5⟩
    · intro p hp
      rcases List.mem_cons.mp hp with rfl | hp
      · exact N _ (by (iterate 1 refine .tail _ ?_); exact .head _)
      · exact N p (by (iterate 7 refine .tail _ ?_); exact hp)
    · intro p hp
      simp only [List.mem_cons, List.not_mem_nil, or_false] at hp
      rcases hp with rfl | rfl | rfl | rfl | rfl <;> simp
theorem d11 (w : World) (m : Str → Option Value) (L' Va Pa A0 A1 A2 A3 : Addr) (l0 l1 l2 l3 : List (Str × Tok)) (form week more zone minutes cas : Int) (n' np n0 n1 n2 n3 : Nat) (good : Bool) (month clock v0 v1 v2 v3 v4 v5 white : Int) (c0 c1 c2 c4 c5 c6 c7 c8 c9 b4 b5 b6 b7 b8 b9 : Tok) (o2 o3 : Obj) (v0c : Option Value) (news : List (Addr × Obj)) (hw : 0 ≤ week) (hw2 : week < 11) (hwh : 0 ≤ white) (hwh2 : white < 8) (hmo : 0 ≤ more) (hmo2 : more < 3) (hfo : 0 ≤ form) (hfo2 : form < 6) (hzo : 0 ≤ zone) (hzo2 : zone < 5) (hmi : 0 ≤ minutes) (hmi2 : minutes < 100) (hca : 0 ≤ cas) (hca2 : cas < 4) (hc2 : o2.data = .cell (some (.ref Pa))) (hc3 : o3.data = .cell v0c)
  (h2 : m (Str.ofString "week") = some (.int week c0)) (h8 : m (Str.ofString "white") = some (.int white c4)) (h9 : m (Str.ofString "more") = some (.int more c5)) (h3 : m (Str.ofString "good") = some (.bool good)) (h4 : m (Str.ofString "values") = some (.ref Va)) (h5 : m (Str.ofString "month") = some (.int month c1)) (h6 : m (Str.ofString "clock") = some (.int clock c2)) (h10 : m (Str.ofString "form") = some (.int form c6)) (h11 : m (Str.ofString "zone") = some (.int zone c7)) (h12 : m (Str.ofString "minutes") = some (.int minutes c8)) (h13 : m (Str.ofString "case") = some (.int cas c9)) (hm : 0 ≤ month) (hm2 : month < 24) (hcl : 0 ≤ clock) (hcl2 : clock < 8) (hv : 0 ≤ v1) (hv2 : v1 < 100000000000000000000) (hv5 : 0 ≤ v5) (hv52 : v5 < 100000000000000000000)
  (hnl : ∀ p ∈ news, p.1 < L') (a2 : L' + 3 < Va) (a3 : L' + 3 < Pa) (a4 : L' + 3 < A0) (a5 : L' + 3 < A1) (a6 : L' + 3 < A2) (a7 : L' + 3 < A3)
  (hl0 : l0.length ≤ 1) (hl1 : l1.length ≤ 1) (hl2 : l2.length ≤ 1) (hl3 : l3.length ≤ 1) (hm0 : ∀ p ∈ l0, p.1.length ≤ 80) (hm1 : ∀ p ∈ l1, p.1.length ≤ 80) (hm22 : ∀ p ∈ l2, p.1.length ≤ 80) (hm3 : ∀ p ∈ l3, p.1.length ≤ 80) :
    RunsX w 64 L' 11 m ((Va, W.listOf #[.int v0 b4, .int v1 b5, .int v2 b6, .int v3 b7, .int v4 b8, .int v5 b9] n') :: (Pa, W.listOf #[.ref A0, .ref A1, .ref A2, .ref A3] np) :: (A0, W.listOf (strValues l0).toArray n0) :: (A1, W.listOf (strValues l1).toArray n1) :: (A2, W.listOf (strValues l2).toArray n2) :: (A3, W.listOf (strValues l3).toArray n3) :: (L' + 2, o2) :: (L' + 3, o3) :: news) 3
      (DateR (txtOf white (wkW week (moreW more (zTxt zone v5 minutes cas (good && decide (form < 4))).toList (wordsOf (ordTab.getD form.toNat []) (l0.map (·.1)) (l1.map (·.1)) (l2.map (·.1)) (l3.map (·.1)) (zTxt zone v5 minutes cas (good && decide (form < 4))).toList)))) (dueOf good month clock (zOff zone v5 minutes) v0 v1 v2 v3 v4) news) := by
  ((k_dflt (refine' RunsX.intro (cls := [(Str.ofString "zoned", _ + 3), (Str.ofString "parts", _ + 2), (Str.ofString "zeros", _ + 1)]) ?ho ?hb ?hc ?_; (case ho => k_is); (case hb => rfl); (case hc => rfl))); intro _ _ _ _ _ _ _ _ _ _ _ _ _ _ _ _ _ _ _ _ _ _ _ _ _ _)
  intro hret
  refine execs_step ?_
  k_steps
  rename News _ _ _ _ => N9
  obtain ⟨X, ord, e1, N8, e2, hor, hol, hX⟩ := pick6 (c := L' + 3) N9 hfo hfo2 (by show @LT.lt Nat _ (@HAdd.hAdd Nat Nat Nat _ L' 3) _; omega) (by show @LT.lt Nat _ (@HAdd.hAdd Nat Nat Nat _ L' 3) _; omega) (by show @LT.lt Nat _ (@HAdd.hAdd Nat Nat Nat _ L' 3) _; omega) (by show @LT.lt Nat _ (@HAdd.hAdd Nat Nat Nat _ L' 3) _; omega) (by show @LT.lt Nat _ (@HAdd.hAdd Nat Nat Nat _ L' 3) _; omega) (by show @LT.lt Nat _ (@HAdd.hAdd Nat Nat Nat _ L' 3) _; omega)
  refine item_list (News.isList N9 (.head _)) hfo (by omega) e1 ?_
  clear N9
  k_steps
  refine Hold.mk ?_
  dsimp only
  rw [← e2] at hret
  refine @RunsX.use w 64 L' 12 _ _ _ _ _ _ _ _ _ _ _ _ _ _ _ _ _ _ _ _ _ _ _ _ _ _ _ _ _ _ _ _ _ _ _ _ _ _ _ (by k_asm) (by k_asm) (by assumption) (by assumption) (by assumption) (by assumption) (by assumption) (by assumption) (by k_is) (by rfl) (by rfl) (d12 w _ L' X Va Pa A0 A1 A2 A3 ord l0 l1 l2 l3 form week more zone minutes cas 0 n' np n0 n1 n2 n3 good month clock v0 v1 v2 v3 v4 v5 white c0 c1 c2 c4 c5 c6 c7 c8 c9 b4 b5 b6 b7 b8 b9 o2 o3 v0c news hw hw2 hwh hwh2 hmo hmo2 hfo hfo2 hzo hzo2 hmi hmi2 hca hca2 hc2 hc3 hor (by first | rfl | assumption) (by assumption) (by assumption) (by assumption) (by assumption) (by assumption) (by assumption) (by assumption) (by assumption) (by assumption) (by assumption) (by assumption) hm hm2 hcl hcl2 hv hv2 hv5 hv52 hnl hX a2 a3 a4 a5 a6 a7 hol hl0 hl1 hl2 hl3 hm0 hm1 hm22 hm3) ?_
  exact hret
end
section
theorem reset26 : True := by
  k_with_none
  w_top off
  trivial
set_option maxRecDepth 100000
set_option maxHeartbeats 8000000
open PyProof.Rows.LCg PyProof.Rows.LCt
noncomputable def goodOf (f0 f1 f2 f3 : Int) : Bool := decide (f0 < 8) && decide (f1 < 8) && decide (f2 < 8) && decide (f3 < 8)
noncomputable def ge8 (v : Value) : Bool := match v with
  | .int f _ => decide (8 ≤ f)
  | _ => false
theorem ge8_yes {f : Int} {t : Tok} (h : ¬ f < 8) : ge8 (.int f t) = true := decide_eq_true (by omega)
theorem ge8_no {f : Int} {t : Tok} (h : f < 8) : ge8 (.int f t) = false := decide_eq_false (by omega)
theorem good_aux (l : List (Int × Tok)) : decide (((iVals l).filter ge8).toArray.size = 0) = l.all (fun p => decide (p.1 < 8)) := by
  rw [List.size_toArray]
  induction l with
  | nil => rfl
  | cons p r ih =>
    show decide ((List.filter ge8 (.int p.1 p.2 :: iVals r)).length = 0) = _
    by_cases h : p.1 < 8
    · rw [List.filter_cons_of_neg (by rw [ge8_no h]; decide), ih]
      simp [h]
    · rw [List.filter_cons_of_pos (ge8_yes h)]
      simp [h]
theorem good_eq {f0 f1 f2 f3 : Int} {e0 e1 e2 e3 : Tok} : decide (((([.int f0 e0, .int f1 e1, .int f2 e2, .int f3 e3] : List Value).filter ge8).toArray).size = 0) = goodOf f0 f1 f2 f3 := by
  have := good_aux [(f0, e0), (f1, e1), (f2, e2), (f3, e3)]
  refine this.trans ?_
  simp only [List.all, goodOf, Bool.and_true, Bool.and_assoc]
theorem eq_nil_b {prog : Program} {w : World} {A : Around} {E : Value → Shared → Prop} {s : Shared} {l b : Addr} {items : Array Value} {Q : Value → Shared → Prop} {z : Bool} (hl : s.heap.IsList l items) (hb : s.heap.IsList b #[]) (hu : A.units < cLine) (e : decide (items.size = 0) = z) (h : Q (.bool z) s) :
    wpAny (model prog w) A (compareOp .Eq (.ref l) (.ref b)) Q E s := eq_nil hl hb hu (by rw [e]; exact h)
theorem d10 (w : World) (m : Str → Option Value) (L' Fa Va Pa A0 A1 A2 A3 : Addr) (l0 l1 l2 l3 : List (Str × Tok)) (f0 f1 f2 f3 form week more zone minutes cas : Int) (nf n' np n0 n1 n2 n3 : Nat) (month clock v0 v1 v2 v3 v4 v5 white : Int) (e0 e1 e2 e3 c0 c1 c2 c4 c5 c6 c7 c8 c9 b4 b5 b6 b7 b8 b9 : Tok) (o2 o3 : Obj) (v0c : Option Value) (news : List (Addr × Obj)) (hw : 0 ≤ week) (hw2 : week < 11) (hwh : 0 ≤ white) (hwh2 : white < 8) (hmo : 0 ≤ more) (hmo2 : more < 3) (hfo : 0 ≤ form) (hfo2 : form < 6) (hzo : 0 ≤ zone) (hzo2 : zone < 5) (hmi : 0 ≤ minutes) (hmi2 : minutes < 100) (hca : 0 ≤ cas) (hca2 : cas < 4) (hc2 : o2.data = .cell (some (.ref Pa))) (hc3 : o3.data = .cell v0c)
  (h2 : m (Str.ofString "week") = some (.int week c0)) (h8 : m (Str.ofString "white") = some (.int white c4)) (h9 : m (Str.ofString "more") = some (.int more c5)) (h3 : m (Str.ofString "faults") = some (.ref Fa)) (h4 : m (Str.ofString "values") = some (.ref Va)) (h5 : m (Str.ofString "month") = some (.int month c1)) (h6 : m (Str.ofString "clock") = some (.int clock c2)) (h10 : m (Str.ofString "form") = some (.int form c6)) (h11 : m (Str.ofString "zone") = some (.int zone c7)) (h12 : m (Str.ofString "minutes") = some (.int minutes c8)) (h13 : m (Str.ofString "case") = some (.int cas c9)) (hm : 0 ≤ month) (hm2 : month < 24) (hcl : 0 ≤ clock) (hcl2 : clock < 8) (hv : 0 ≤ v1) (hv2 : v1 < 100000000000000000000) (hv5 : 0 ≤ v5) (hv52 : v5 < 100000000000000000000)
  (hf : ∀ f ∈ [f0, f1, f2, f3], 0 ≤ f ∧ f < 12)
  (hnl : ∀ p ∈ news, p.1 < L') (a2 : L' + 3 < Va) (a3 : L' + 3 < Pa) (a4 : L' + 3 < A0) (a5 : L' + 3 < A1) (a6 : L' + 3 < A2) (a7 : L' + 3 < A3)
  (hl0 : l0.length ≤ 1) (hl1 : l1.length ≤ 1) (hl2 : l2.length ≤ 1) (hl3 : l3.length ≤ 1) (hm0 : ∀ p ∈ l0, p.1.length ≤ 80) (hm1 : ∀ p ∈ l1, p.1.length ≤ 80) (hm22 : ∀ p ∈ l2, p.1.length ≤ 80) (hm3 : ∀ p ∈ l3, p.1.length ≤ 80) :
    RunsX w 64 L' 10 m ((Fa, W.listOf #[.int f0 e0, .int f1 e1, .int f2 e2, .int f3 e3] nf) :: (Va, W.listOf #[.int v0 b4, .int v1 b5, .int v2 b6, .int v3 b7, .int v4 b8, .int v5 b9] n') :: (Pa, W.listOf #[.ref A0, .ref A1, .ref A2, .ref A3] np) :: (A0, W.listOf (strValues l0).toArray n0) :: (A1, W.listOf (strValues l1).toArray n1) :: (A2, W.listOf (strValues l2).toArray n2) :: (A3, W.listOf (strValues l3).toArray n3) :: (L' + 2, o2) :: (L' + 3, o3) :: news) 3
      (DateR (txtOf white (wkW week (moreW more (zTxt zone v5 minutes cas (goodOf f0 f1 f2 f3 && decide (form < 4))).toList (wordsOf (ordTab.getD form.toNat []) (l0.map (·.1)) (l1.map (·.1)) (l2.map (·.1)) (l3.map (·.1)) (zTxt zone v5 minutes cas (goodOf f0 f1 f2 f3 && decide (form < 4))).toList)))) (dueOf (goodOf f0 f1 f2 f3) month clock (zOff zone v5 minutes) v0 v1 v2 v3 v4) news) := by
  obtain ⟨good, hgood⟩ : ∃ b, b = goodOf f0 f1 f2 f3 := ⟨_, rfl⟩
  rw [← hgood]
  ((k_dflt (refine' RunsX.intro (cls := [(Str.ofString "zoned", _ + 3), (Str.ofString "parts", _ + 2), (Str.ofString "zeros", _ + 1)]) ?ho ?hb ?hc ?_; (case ho => k_is); (case hb => rfl); (case hc => rfl))); intro _ _ _ _ _ _ _ _ _ _ _ _ _ _ _ _ _ _ _ _ _ _ _ _ _ _)
  intro hret
  refine execs_step ?_
  walk1
  walk1
  k_dflt (refine LCt.ListComp_T (F₀ := by k_asm) (by with_unfolding_all rfl) (by decide) (by rfl) (by decide) (by rfl) ?_)
  walk1
  refine LCt.CompSrcT.ledger (by rfl) (by k_asm) (by k_asm) (.head _) (by show 4 ≤ sizeLine; decide) ?_
  intro gg
  refine filt_ind [.int f0 e0, .int f1 e1, .int f2 e2, .int f3 e3] ge8 ?_ ?_
  · intro v hvm ys I oI C oC D m₂ h tk E' hC hk F N off ne
    obtain ⟨f, t, rfl, hf0, hf1⟩ : ∃ f t, v = .int f t ∧ 0 ≤ f ∧ f < 12 := by
      simp only [List.mem_cons, List.not_mem_nil, or_false] at hvm
      rcases hvm with rfl | rfl | rfl | rfl
      · exact ⟨_, _, rfl, hf f0 (by simp)⟩
      · exact ⟨_, _, rfl, hf f1 (by simp)⟩
      · exact ⟨_, _, rfl, hf f2 (by simp)⟩
      · exact ⟨_, _, rfl, hf f3 (by simp)⟩
    clear hvm
    k_steps
    · refine CompEnd.intro (by k_asm) (by k_asm) _ (fun p hp => hp) off (.inr ⟨_, .head _, rfl, _, rfl⟩) ⟨rfl, rfl, ?_⟩
      show decide (8 ≤ f) = true
      exact decide_eq_true (by omega)
    · refine CompEnd.intro (by k_asm) (by k_asm) _ (fun p hp => hp) off (.inr ⟨_, .head _, rfl, _, rfl⟩) ⟨rfl, ?_⟩
      show decide (8 ≤ f) = false
      exact decide_eq_false (by omega)
  · intro D h tk F N o1
    k_steps
    refine eq_nil_b (News.isList (by k_asm) (.tail _ (.head _))) (News.isList (by k_asm) (.head _)) (by first | units_room | (show _ < cLine; simp only [Around.deeper, ktrTop]; omega)) (good_eq.trans hgood.symm) ?_
    k_steps
    refine Hold.mk ?_
    rename News _ _ _ _ => N9
    have N8 := cb_drop N9 (news := (Va, W.listOf #[.int v0 b4, .int v1 b5, .int v2 b6, .int v3 b7, .int v4 b8, .int v5 b9] n') :: (Pa, W.listOf #[.ref A0, .ref A1, .ref A2, .ref A3] np) :: (A0, W.listOf (strValues l0).toArray n0) :: (A1, W.listOf (strValues l1).toArray n1) :: (A2, W.listOf (strValues l2).toArray n2) :: (A3, W.listOf (strValues l3).toArray n3) :: (L' + 2, o2) :: (L' + 3, o3) :: news) (by intro p hp; (iterate 3 refine .tail _ ?_); exact hp)
    clear N9
    dsimp only
    have H := (d11 w (fun y => if y = Str.ofString "good" then some (Value.bool good) else m y) L' Va Pa A0 A1 A2 A3 l0 l1 l2 l3 form week more zone minutes cas n' np n0 n1 n2 n3 good month clock v0 v1 v2 v3 v4 v5 white c0 c1 c2 c4 c5 c6 c7 c8 c9 b4 b5 b6 b7 b8 b9 o2 o3 v0c news hw hw2 hwh hwh2 hmo hmo2 hfo hfo2 hzo hzo2 hmi hmi2 hca hca2 hc2 hc3 h2 h8 h9 rfl h4 h5 h6 h10 h11 h12 h13 hm hm2 hcl hcl2 hv hv2 hv5 hv52 hnl a2 a3 a4 a5 a6 a7 hl0 hl1 hl2 hl3 hm0 hm1 hm22 hm3)
    rename Fr _ _ _ _ => F9
    refine @RunsX.use w 64 L' 11 _ _ _ _ _ _ _ _ _ _ _ _ _ _ _ _ _ _ _ _ _ _ _ _ _ _ _ _ _ _ _ _ _ _ _ _ _ _ _ F9 N8 (by assumption) (by assumption) (by assumption) (by assumption) (by assumption) (by assumption) (by k_is) (by rfl) (by rfl) H ?_
    exact hret
end
section
set_option maxRecDepth 100000
set_option maxHeartbeats 8000000
theorem all_cons {α : Type} {P : α → Prop} {a : α} {l : List α} (h : P a) (r : ∀ p ∈ l, P p) : ∀ p ∈ a :: l, P p := fun p hp => (List.mem_cons.mp hp).elim (fun e => e ▸ h) (r p)
theorem sub_cons {a : Addr × Obj} {l b : List (Addr × Obj)} (h : a ∈ b) (r : ∀ p ∈ l, p ∈ b) : ∀ p ∈ a :: l, p ∈ b := fun p hp => (List.mem_cons.mp hp).elim (fun e => e ▸ h) (r p)
theorem ne_cons {a : Addr × Obj} {l : List (Addr × Obj)} {x : Addr} (h : a.1 ≠ x) (r : ∀ p ∈ l, p.1 ≠ x) : ∀ p ∈ a :: l, p.1 ≠ x := fun p hp => (List.mem_cons.mp hp).elim (fun e => e ▸ h) (r p)
noncomputable def nameTab : List Str := [Str.ofString "Jan", Str.ofString "Feb", Str.ofString "Mar", Str.ofString "Apr", Str.ofString "May", Str.ofString "Jun", Str.ofString "Jul", Str.ofString "Aug", Str.ofString "Sep", Str.ofString "Oct", Str.ofString "Nov", Str.ofString "Dec", Str.ofString "January", Str.ofString "February", Str.ofString "March", Str.ofString "April", Str.ofString "May", Str.ofString "June", Str.ofString "July", Str.ofString "August", Str.ofString "September", Str.ofString "October", Str.ofString "November", Str.ofString "December"]
theorem nameTab_all : ∀ j, j < 24 → (nameTab.getD j Str.empty).length ≤ 20 := by decide +kernel
theorem nameTab_len (month : Int) : (nameTab.getD month.toNat Str.empty).length ≤ 20 := by
  by_cases h : month.toNat < 24
  · exact nameTab_all _ h
  · rw [List.getD_eq_getElem?_getD, List.getElem?_eq_none (by show 24 ≤ _; omega)]
    decide +kernel
noncomputable def partOf (f : Int) (x : Str) (ls : List Str) : List Str := if f < 8 then [x] else if f = 8 then [] else [ls.getD (f - 9).toNat Str.empty]
/-- one turn of the loop: its pair, its fault, its spoiled texts -/
structure It where
  T : Addr
  k : Int
  x : Str
  xt : Tok
  f : Int
  ft : Tok
  S : Addr
  ls : List (Str × Tok)
  ns : Nat
structure ItOk (fs sps : Array Value) (rest0 : List (Addr × Obj)) (it : It) : Prop where
  k0 : 0 ≤ it.k
  k4 : it.k < 4
  xl : it.x.length ≤ 80
  f0 : 0 ≤ it.f
  f12 : it.f < 12
  l3 : it.ls.length = 3
  ll : ∀ p ∈ it.ls, p.1.length ≤ 80
  hf : fs[it.k.toNat]? = some (.int it.f it.ft)
  hs : sps[it.k.toNat]? = some (.ref it.S)
  mT : ∃ kt, (it.T, ({ cls := Value.type "tuple", data := .seq #[.int it.k kt, .str it.x it.xt] } : Obj)) ∈ rest0
  mS : (it.S, W.listOf (strValues it.ls).toArray it.ns) ∈ rest0
noncomputable def objs (q : List (Addr × List (Str × Tok))) : List (Addr × Obj) := q.map fun p => (p.1, W.listOf (strValues p.2).toArray 0)
noncomputable def PartJ (I Pa : Addr) (m : Str → Option Value) (fs sps : Array Value) (rest0 : List (Addr × Obj)) (total : List (List Str)) (vs : List Value) (m' : Str → Option Value) (n' : List (Addr × Obj)) : Prop :=
  ∃ (rem : List It) (q : List (Addr × List (Str × Tok))) (npp : Nat), vs = rem.map (fun it => .ref it.T) ∧ (∀ it ∈ rem, ItOk fs sps rest0 it) ∧ (∀ y, y ≠ Str.ofString "k" → y ≠ Str.ofString "right" → m' y = m y) ∧
    n' = (Pa, W.listOf (q.map (fun p => Value.ref p.1)).toArray npp) :: (objs q ++ rest0) ∧ (∀ p ∈ q, I < p.1) ∧ q.map (fun p => p.2.map (·.1)) ++ rem.map (fun it => partOf it.f it.x (it.ls.map (·.1))) = total ∧ q.length + rem.length = 4 ∧ (∀ p ∈ q, p.2.length ≤ 1 ∧ ∀ z ∈ p.2, z.1.length ≤ 80)
theorem nameTab_asc : ∀ j, j < 24 → ∀ c ∈ (nameTab.getD j Str.empty).cps.toList, c < 128 := by decide +kernel
theorem case_allQ : ∀ j, j < 24 → ∀ c : Fin 4, (caseQ (nameTab.getD j Str.empty) (c.val : Int)).length ≤ 80 := by decide +kernel
theorem case_all (j : Nat) (hj : j < 24) (c : Fin 4) : (caseOf (nameTab.getD j Str.empty) (c.val : Int)).length ≤ 80 := by
  rw [caseOf_q (nameTab_asc j hj)]
  exact case_allQ j hj c
theorem case_len {month cas : Int} (hm : 0 ≤ month) (hm2 : month < 24) (hc : 0 ≤ cas) (hc2 : cas < 4) : (caseOf (nameTab.getD month.toNat Str.empty) cas).length ≤ 80 := by
  obtain ⟨c, rfl⟩ := Int.eq_ofNat_of_zero_le hc
  exact case_all month.toNat (by omega) ⟨c, by omega⟩
theorem getD4 {f0 f1 f2 f3 f : Int} {e0 e1 e2 e3 e : Tok} {k : Nat} (h : (#[.int f0 e0, .int f1 e1, .int f2 e2, .int f3 e3] : Array Value)[k]? = some (.int f e)) : [f0, f1, f2, f3].getD k 0 = f := by
  rcases k with _ | _ | _ | _ | k
  · injection h with h; injection h
  · injection h with h; injection h
  · injection h with h; injection h
  · injection h with h; injection h
  · cases h
theorem part_end {g : Heap} {L I Pa A Li : Addr} {m m'' : Str → Option Value} {fs sps : Array Value} {rest0 : List (Addr × Obj)} {total : List (List Str)} {rem' : List It} {it : It} {q : List (Addr × List (Str × Tok))} {npn : Nat} {l : List (Str × Tok)} {s₁ : Shared} {h'' : Heap} {tk : Nat} {ito lo : Obj}
    (F : Fr g L h'' m'') (N : News g L h'' ((A, W.listOf (strValues l).toArray 0) :: (I, ito) :: (Pa, W.listOf ((q.map (fun p => Value.ref p.1)).toArray.push (.ref A)) npn) :: (objs q ++ rest0)))
    (hA : I < A) (hPI : Pa < I) (hrI : ∀ p ∈ rest0, p.1 < I) (hq : ∀ p ∈ q, I < p.1) (hfr : ∀ y, y ≠ Str.ofString "k" → y ≠ Str.ofString "right" → m'' y = m y) (hit : ∀ it' ∈ rem', ItOk fs sps rest0 it')
    (htot : q.map (fun p => p.2.map (·.1)) ++ (it :: rem').map (fun it => partOf it.f it.x (it.ls.map (·.1))) = total) (hl : l.map (·.1) = partOf it.f it.x (it.ls.map (·.1))) (hlen : q.length + (it :: rem').length = 4) (hql : ∀ p ∈ q, p.2.length ≤ 1 ∧ ∀ z ∈ p.2, z.1.length ≤ 80)
    (hll : l.length ≤ 1 ∧ ∀ z ∈ l, z.1.length ≤ 80) (hli : (Li, lo) ∈ rest0) :
    UnrEndW g L s₁ [(I, ito)] (fun m' n' => SubL [(Li, lo)] n' ∧ PartJ I Pa m fs sps rest0 total (rem'.map (fun it => .ref it.T)) m' n') { s₁ with heap := h'', toks := tk } := by
  have eo : objs (q ++ [(A, l)]) = objs q ++ [(A, W.listOf (strValues l).toArray 0)] := by simp [objs]
  have er : ((q ++ [(A, l)]).map (fun p => Value.ref p.1)).toArray = (q.map (fun p => Value.ref p.1)).toArray.push (.ref A) := by simp
  refine UnrEndW.mk (news' := (Pa, W.listOf ((q ++ [(A, l)]).map (fun p => Value.ref p.1)).toArray npn) :: (objs (q ++ [(A, l)]) ++ rest0)) F N ?_ ?_ ⟨⟨.tail _ (List.mem_append_right _ hli), trivial⟩, rem', q ++ [(A, l)], npn, rfl, hit, hfr, rfl, ?_, ?_, ?_, ?_⟩
  · rw [eo, er]
    intro p hp
    rcases List.mem_append.mp hp with hp | hp
    · rw [List.mem_singleton.mp hp]; exact .tail _ (.head _)
    rcases List.mem_cons.mp hp with rfl | hp
    · exact .tail _ (.tail _ (.head _))
    rcases List.mem_append.mp hp with hp | hp
    · rcases List.mem_append.mp hp with hp | hp
      · exact .tail _ (.tail _ (.tail _ (List.mem_append_left _ hp)))
      · rw [List.mem_singleton.mp hp]; exact .head _
    · exact .tail _ (.tail _ (.tail _ (List.mem_append_right _ hp)))
  · intro p hp z hz
    rw [List.mem_singleton.mp hz]
    rcases List.mem_cons.mp hp with rfl | hp
    · exact Nat.ne_of_lt hPI
    rw [eo] at hp
    rcases List.mem_append.mp hp with hp | hp
    · rcases List.mem_append.mp hp with hp | hp
      · obtain ⟨y, hy, rfl⟩ := List.mem_map.mp hp
        exact Nat.ne_of_gt (hq y hy)
      · rw [List.mem_singleton.mp hp]; exact Nat.ne_of_gt hA
    · exact Nat.ne_of_lt (hrI p hp)
  · intro p hp
    rcases List.mem_append.mp hp with hp | hp
    · exact hq p hp
    · rw [List.mem_singleton.mp hp]; exact hA
  · rw [← htot, List.map_append, List.map_cons]
    simp [hl]
  · simp only [List.length_append, List.length_cons, List.length_nil] at hlen ⊢; omega
  · intro p hp
    rcases List.mem_append.mp hp with hp | hp
    · exact hql p hp
    · rw [List.mem_singleton.mp hp]; exact hll
theorem part_lt {f : Int} {x : Str} {ls : List Str} (h : f < 8) : [x] = partOf f x ls := by unfold partOf; rw [if_pos h]
theorem part_eq {f : Int} {x : Str} {ls : List Str} (h : f = 8) : [] = partOf f x ls := by unfold partOf; rw [if_neg (by omega), if_pos h]
theorem part_gt {f : Int} {x : Str} {ls : List Str} (h : ¬ f < 8) (h2 : ¬ f = 8) : [ls.getD (f - 9).toNat Str.empty] = partOf f x ls := by unfold partOf; rw [if_neg h, if_neg h2]
theorem getD_len {l : List (Str × Tok)} (h : ∀ p ∈ l, p.1.length ≤ 80) (j : Nat) : ((l.map (·.1)).getD j Str.empty).length ≤ 80 := by
  rw [List.getD_eq_getElem?_getD]
  cases e : (l.map (·.1))[j]? with
  | none => show Str.empty.length ≤ 80; decide +kernel
  | some x =>
    obtain ⟨p, hp, rfl⟩ := List.mem_map.mp (List.mem_of_getElem? e)
    exact h p hp
end
section
theorem reset28 : True := by
  k_with_none
  w_top off
  trivial
set_option maxRecDepth 100000
set_option maxHeartbeats 8000000
theorem d9 (w : World) (m : Str → Option Value) (L' Sp S0 S1 S2 S3 Na Fa Va Pa : Addr) (nms ls0 ls1 ls2 ls3 : List (Str × Tok)) (day year moment : Str) (f0 f1 f2 f3 form week more zone minutes cas : Int) (nn nsp k0 k1 k2 k3 nf n' np : Nat) (month clock v0 v1 v2 v3 v4 v5 white : Int) (td ty tm e0 e1 e2 e3 c0 c1 c2 c4 c5 c6 c7 c8 c9 b4 b5 b6 b7 b8 b9 : Tok) (o2 o3 : Obj) (v0c : Option Value) (news : List (Addr × Obj)) (hw : 0 ≤ week) (hw2 : week < 11) (hwh : 0 ≤ white) (hwh2 : white < 8) (hmo : 0 ≤ more) (hmo2 : more < 3) (hfo : 0 ≤ form) (hfo2 : form < 6) (hzo : 0 ≤ zone) (hzo2 : zone < 5) (hmi : 0 ≤ minutes) (hmi2 : minutes < 100) (hca : 0 ≤ cas) (hca2 : cas < 4) (hc2 : o2.data = .cell (some (.ref Pa))) (hc3 : o3.data = .cell v0c)
  (h2 : m (Str.ofString "week") = some (.int week c0)) (h8 : m (Str.ofString "white") = some (.int white c4)) (h9 : m (Str.ofString "more") = some (.int more c5)) (h3 : m (Str.ofString "faults") = some (.ref Fa)) (h4 : m (Str.ofString "values") = some (.ref Va)) (h5 : m (Str.ofString "month") = some (.int month c1)) (h6 : m (Str.ofString "clock") = some (.int clock c2)) (h10 : m (Str.ofString "form") = some (.int form c6)) (h11 : m (Str.ofString "zone") = some (.int zone c7)) (h12 : m (Str.ofString "minutes") = some (.int minutes c8)) (h13 : m (Str.ofString "case") = some (.int cas c9))
  (h14 : m (Str.ofString "names") = some (.ref Na)) (h15 : m (Str.ofString "spoiled") = some (.ref Sp)) (h16 : m (Str.ofString "day") = some (.str day td)) (h17 : m (Str.ofString "year") = some (.str year ty)) (h18 : m (Str.ofString "moment") = some (.str moment tm)) (hm : 0 ≤ month) (hm2 : month < 24) (hcl : 0 ≤ clock) (hcl2 : clock < 8) (hv : 0 ≤ v1) (hv2 : v1 < 100000000000000000000) (hv5 : 0 ≤ v5) (hv52 : v5 < 100000000000000000000)
  (hf : ∀ f ∈ [f0, f1, f2, f3], 0 ≤ f ∧ f < 12) (hnm : nms.map (·.1) = nameTab)
  (hnl : ∀ p ∈ news, p.1 < L') (a2 : L' + 3 < Va) (a3 : L' + 3 < Pa) (a4 : Sp < Pa) (a5 : S0 < Pa) (a6 : S1 < Pa) (a7 : S2 < Pa) (a8 : S3 < Pa) (a9 : Na < Pa) (a10 : Fa < Pa) (a11 : Va < Pa)
  (q0 : ls0.length = 3) (q1 : ls1.length = 3) (q2 : ls2.length = 3) (q3 : ls3.length = 3) (r0 : ∀ p ∈ ls0, p.1.length ≤ 80) (r1 : ∀ p ∈ ls1, p.1.length ≤ 80) (r2 : ∀ p ∈ ls2, p.1.length ≤ 80) (r3 : ∀ p ∈ ls3, p.1.length ≤ 80) (r4 : day.length ≤ 80) (r5 : year.length ≤ 80) (r6 : moment.length ≤ 80) :
    RunsX w 64 L' 9 m ((Pa, W.listOf #[] np) :: (Sp, W.listOf #[.ref S0, .ref S1, .ref S2, .ref S3] nsp) :: (S0, W.listOf (strValues ls0).toArray k0) :: (S1, W.listOf (strValues ls1).toArray k1) :: (S2, W.listOf (strValues ls2).toArray k2) :: (S3, W.listOf (strValues ls3).toArray k3) :: (Na, W.listOf (strValues nms).toArray nn) :: (Fa, W.listOf #[.int f0 e0, .int f1 e1, .int f2 e2, .int f3 e3] nf) :: (Va, W.listOf #[.int v0 b4, .int v1 b5, .int v2 b6, .int v3 b7, .int v4 b8, .int v5 b9] n') :: (L' + 2, o2) :: (L' + 3, o3) :: news) 3
      (DateR (txtOf white (wkW week (moreW more (zTxt zone v5 minutes cas (goodOf f0 f1 f2 f3 && decide (form < 4))).toList (wordsOf (ordTab.getD form.toNat []) (partOf f0 day (ls0.map (·.1))) (partOf f1 (caseOf (nameTab.getD month.toNat Str.empty) cas) (ls1.map (·.1))) (partOf f2 year (ls2.map (·.1))) (partOf f3 moment (ls3.map (·.1))) (zTxt zone v5 minutes cas (goodOf f0 f1 f2 f3 && decide (form < 4))).toList)))) (dueOf (goodOf f0 f1 f2 f3) month clock (zOff zone v5 minutes) v0 v1 v2 v3 v4) news) := by
  have r7 := case_len hm hm2 hca hca2
  ((k_dflt (refine' RunsX.intro (cls := [(Str.ofString "zoned", _ + 3), (Str.ofString "parts", _ + 2), (Str.ofString "zeros", _ + 1)]) ?ho ?hb ?hc ?_; (case ho => k_is); (case hb => rfl); (case hc => rfl))); intro _ _ _ _ _ _ _ _ _ _ _ _ _ _ _ _ _ _ _ _ _ _ _ _ _ _)
  intro hret
  refine execs_step ?_
  refine wpAny_mono (E := fun _ _ => False) ?_ (fun _ _ h => h) (fun _ _ h => h.elim)
  rename Fr _ _ _ _ => lF
  with_unfolding_all refine' For_turns lF ?_
  (k_with "subscriptTail Name Name ref int" => apply Hold.out)
  k_steps
  refine Hold.mk ?_
  k_with_none
  refine KTb.item_list (News.isList (by k_asm) (by exact List.mem_of_mem_drop (i := 7) (.head _))) (show StrsAre (strValues nms) nameTab from hnm ▸ strs_of nms) hm hm2 (by omega) ?_
  intro t' _
  k_steps
  refine Calls.use (k52 w _ _ _ _ _ (nameTab_len month) hca hca2) (by k_asm) (by k_asm) (by assumption) (by assumption) (by assumption) (by rfl) (by omega) (by omega) ?_
  intro v nw h' tk' F' N' r
  obtain ⟨kp, tc, rfl⟩ := r
  have N2 := cb_drop N' (fun p hp => kp p hp)
  clear N' kp
  (k_with "pyIter ref" => apply Hold.out)
  k_steps
  refine Hold.mk ?_
  k_with_none
  rename_i T0 hx0 g0 ax T1 hx1 g1 T2 hx2 g2 T3 hx3 g3 Li hx4 F1 N1 g4
  have N2 := cb_drop N1 (news := (Pa, W.listOf #[] np) :: (Li, W.listOf #[.ref T0, .ref T1, .ref T2, .ref T3] 0) :: (T3, ({ cls := Value.type "tuple", data := .seq #[.int 3 (tk' + 1), .str moment tm] } : Obj)) :: (T2, ({ cls := Value.type "tuple", data := .seq #[.int 2 tk', .str year ty] } : Obj)) :: (T1, ({ cls := Value.type "tuple", data := .seq #[.int 1 _, .str (caseOf (nameTab.getD month.toNat Str.empty) cas) tc] } : Obj)) :: (T0, ({ cls := Value.type "tuple", data := .seq #[.int 0 _, .str day td] } : Obj)) :: (Sp, W.listOf #[.ref S0, .ref S1, .ref S2, .ref S3] nsp) :: (S0, W.listOf (strValues ls0).toArray k0) :: (S1, W.listOf (strValues ls1).toArray k1) :: (S2, W.listOf (strValues ls2).toArray k2) :: (S3, W.listOf (strValues ls3).toArray k3) :: (Na, W.listOf (strValues nms).toArray nn) :: (Fa, W.listOf #[.int f0 e0, .int f1 e1, .int f2 e2, .int f3 e3] nf) :: (Va, W.listOf #[.int v0 b4, .int v1 b5, .int v2 b6, .int v3 b7, .int v4 b8, .int v5 b9] n') :: (L' + 2, o2) :: (L' + 3, o3) :: news) (by
    refine sub_cons ?_ ?_
    · exact List.mem_of_mem_drop (i := 5) (.head _)
    · refine sub_cons ?_ ?_
      · exact .head _
      · refine sub_cons ?_ ?_
        · exact .tail _ (.head _)
        · refine sub_cons ?_ ?_
          · exact .tail _ (.tail _ (.head _))
          · refine sub_cons ?_ ?_
            · exact .tail _ (.tail _ (.tail _ (.head _)))
            · refine sub_cons ?_ ?_
              · exact .tail _ (.tail _ (.tail _ (.tail _ (.head _))))
              · intro p hp
                exact List.mem_of_mem_drop (i := 6) (hp))
  clear N1
  generalize hr0 : ((Li, _) :: _ : List (Addr × Obj)) = rest0 at N2
  have hli : (Li, W.listOf #[Value.ref T0, .ref T1, .ref T2, .ref T3] 0) ∈ rest0 := by rw [← hr0]; exact .head _
  refine iter_listTurns (vs := [Value.ref T0, .ref T1, .ref T2, .ref T3]) rfl F1 N2 (.tail _ hli) rfl rfl ?_
  have hrP : ∀ p ∈ rest0, p.1 ≠ Pa := by
    rw [← hr0]
    refine ne_cons ?_ ?_
    · exact Nat.ne_of_gt g4.2.2.2.2.1
    refine ne_cons ?_ ?_
    · exact Nat.ne_of_gt g3.2.2.2.1
    refine ne_cons ?_ ?_
    · exact Nat.ne_of_gt g2.2.2.1
    refine ne_cons ?_ ?_
    · exact Nat.ne_of_gt g1.2.1
    refine ne_cons ?_ ?_
    · exact Nat.ne_of_gt g0.1
    refine ne_cons ?_ ?_
    · exact Nat.ne_of_lt a4
    refine ne_cons ?_ ?_
    · exact Nat.ne_of_lt a5
    refine ne_cons ?_ ?_
    · exact Nat.ne_of_lt a6
    refine ne_cons ?_ ?_
    · exact Nat.ne_of_lt a7
    refine ne_cons ?_ ?_
    · exact Nat.ne_of_lt a8
    refine ne_cons ?_ ?_
    · exact Nat.ne_of_lt a9
    refine ne_cons ?_ ?_
    · exact Nat.ne_of_lt a10
    refine ne_cons ?_ ?_
    · exact Nat.ne_of_lt a11
    refine ne_cons ?_ ?_
    · exact Nat.ne_of_lt (Nat.lt_trans (Nat.lt_succ_self _) a3)
    refine ne_cons ?_ ?_
    · exact Nat.ne_of_lt a3
    · intro p hp
      exact Nat.ne_of_lt (Nat.lt_trans (Nat.lt_of_lt_of_le (hnl p hp) (Nat.le_add_right _ 3)) a3)
  intro I hI
  refine itemsRest_ind (J := PartJ I Pa m #[.int f0 e0, .int f1 e1, .int f2 e2, .int f3 e3] #[.ref S0, .ref S1, .ref S2, .ref S3] rest0 [partOf f0 day (ls0.map (·.1)), partOf f1 (caseOf (nameTab.getD month.toNat Str.empty) cas) (ls1.map (·.1)), partOf f2 year (ls2.map (·.1)), partOf f3 moment (ls3.map (·.1))]) ?step ?fin _ _ _ ?init
  case init =>
    refine ⟨[⟨T0, 0, day, td, f0, e0, S0, ls0, k0⟩, ⟨T1, 1, caseOf (nameTab.getD month.toNat Str.empty) cas, tc, f1, e1, S1, ls1, k1⟩, ⟨T2, 2, year, ty, f2, e2, S2, ls2, k2⟩, ⟨T3, 3, moment, tm, f3, e3, S3, ls3, k3⟩], [], np, rfl, ?_, fun _ _ _ => rfl, rfl, (by intro p hp; cases hp), rfl, rfl, (by intro p hp; cases hp)⟩
    intro it hit
    rcases List.mem_cons.mp hit with rfl | hit
    · exact ⟨(by decide : (0 : Int) ≤ 0), (by decide : (0 : Int) < 4), r4, (hf f0 (by simp)).1, (hf f0 (by simp)).2, q0, r0, rfl, rfl, ⟨_, by rw [← hr0]; exact List.mem_of_mem_drop (i := 4) (.head _)⟩, by rw [← hr0]; exact List.mem_of_mem_drop (i := 6) (.head _)⟩
    rcases List.mem_cons.mp hit with rfl | hit
    · exact ⟨(by decide : (0 : Int) ≤ 1), (by decide : (1 : Int) < 4), r7, (hf f1 (by simp)).1, (hf f1 (by simp)).2, q1, r1, rfl, rfl, ⟨_, by rw [← hr0]; exact List.mem_of_mem_drop (i := 3) (.head _)⟩, by rw [← hr0]; exact List.mem_of_mem_drop (i := 7) (.head _)⟩
    rcases List.mem_cons.mp hit with rfl | hit
    · exact ⟨(by decide : (0 : Int) ≤ 2), (by decide : (2 : Int) < 4), r5, (hf f2 (by simp)).1, (hf f2 (by simp)).2, q2, r2, rfl, rfl, ⟨_, by rw [← hr0]; exact List.mem_of_mem_drop (i := 2) (.head _)⟩, by rw [← hr0]; exact List.mem_of_mem_drop (i := 8) (.head _)⟩
    rcases List.mem_cons.mp hit with rfl | hit
    · exact ⟨(by decide : (0 : Int) ≤ 3), (by decide : (3 : Int) < 4), r6, (hf f3 (by simp)).1, (hf f3 (by simp)).2, q3, r3, rfl, rfl, ⟨_, by rw [← hr0]; exact List.mem_of_mem_drop (i := 1) (.head _)⟩, by rw [← hr0]; exact List.mem_of_mem_drop (i := 9) (.head _)⟩
    cases hit
  case fin =>
    rintro m' n' ⟨rem, q, npp, ev, hit, hfr, rfl, hq, htot, hlen, hql⟩ h tk F N
    have hrem : rem = [] := by cases rem with | nil => rfl | cons _ _ => cases ev
    subst hrem
    obtain ⟨⟨A0, l0⟩, ⟨A1, l1⟩, ⟨A2, l2⟩, ⟨A3, l3⟩, rfl⟩ : ∃ a b c d, q = [a, b, c, d] := by
      rcases q with _ | ⟨a, _ | ⟨b, _ | ⟨c, _ | ⟨d, _ | ⟨e, r⟩⟩⟩⟩⟩ <;> simp at hlen
      · exact ⟨a, b, c, d, rfl⟩
      all_goals (try omega)
    simp only [List.map_cons, List.map_nil, List.append_nil, List.cons.injEq, and_true] at htot
    obtain ⟨t0, t1, t2, t3⟩ := htot
    have hPI : Pa < I := hI _ (.head _)
    have z3 : L' + 3 < I := Nat.lt_trans a3 hPI
    refine Hold.mk ?_
    dsimp only
    have N8 := cb_drop N (news := (Fa, W.listOf #[.int f0 e0, .int f1 e1, .int f2 e2, .int f3 e3] nf) :: (Va, W.listOf #[.int v0 b4, .int v1 b5, .int v2 b6, .int v3 b7, .int v4 b8, .int v5 b9] n') :: (Pa, W.listOf #[.ref A0, .ref A1, .ref A2, .ref A3] npp) :: (A0, W.listOf (strValues l0).toArray 0) :: (A1, W.listOf (strValues l1).toArray 0) :: (A2, W.listOf (strValues l2).toArray 0) :: (A3, W.listOf (strValues l3).toArray 0) :: (L' + 2, o2) :: (L' + 3, o3) :: news) (by
      have e4 : ∀ p ∈ objs [(A0, l0), (A1, l1), (A2, l2), (A3, l3)] ++ rest0, p ∈ (Pa, W.listOf ([(A0, l0), (A1, l1), (A2, l2), (A3, l3)].map (fun p => Value.ref p.1)).toArray npp) :: (objs [(A0, l0), (A1, l1), (A2, l2), (A3, l3)] ++ rest0) := fun p hp => .tail _ hp
      refine sub_cons ?_ ?_
      · refine e4 _ (List.mem_append_right _ ?_); rw [← hr0]; exact List.mem_of_mem_drop (i := 11) (.head _)
      refine sub_cons ?_ ?_
      · refine e4 _ (List.mem_append_right _ ?_); rw [← hr0]; exact List.mem_of_mem_drop (i := 12) (.head _)
      refine sub_cons ?_ ?_
      · exact .head _
      refine sub_cons ?_ ?_
      · exact e4 _ (.head _)
      refine sub_cons ?_ ?_
      · exact e4 _ (.tail _ (.head _))
      refine sub_cons ?_ ?_
      · exact e4 _ (.tail _ (.tail _ (.head _)))
      refine sub_cons ?_ ?_
      · exact e4 _ (.tail _ (.tail _ (.tail _ (.head _))))
      · intro p hp
        refine e4 _ (List.mem_append_right _ ?_); rw [← hr0]; exact List.mem_of_mem_drop (i := 13) (hp))
    clear N
    have hfq : ∀ {y : Str} {v : Value}, y ≠ Str.ofString "k" → y ≠ Str.ofString "right" → m y = some v → m' y = some v := fun h1 h2 e => (hfr _ h1 h2).trans e
    have H := d10 w m' L' Fa Va Pa A0 A1 A2 A3 l0 l1 l2 l3 f0 f1 f2 f3 form week more zone minutes cas nf n' npp 0 0 0 0 month clock v0 v1 v2 v3 v4 v5 white e0 e1 e2 e3 c0 c1 c2 c4 c5 c6 c7 c8 c9 b4 b5 b6 b7 b8 b9 o2 o3 v0c news hw hw2 hwh hwh2 hmo hmo2 hfo hfo2 hzo hzo2 hmi hmi2 hca hca2 hc2 hc3 (hfq (by decide) (by decide) h2) (hfq (by decide) (by decide) h8) (hfq (by decide) (by decide) h9) (hfq (by decide) (by decide) h3) (hfq (by decide) (by decide) h4) (hfq (by decide) (by decide) h5) (hfq (by decide) (by decide) h6) (hfq (by decide) (by decide) h10) (hfq (by decide) (by decide) h11) (hfq (by decide) (by decide) h12) (hfq (by decide) (by decide) h13) hm hm2 hcl hcl2 hv hv2 hv5 hv52 hf hnl a2 a3 (Nat.lt_trans z3 (hq _ (.head _))) (Nat.lt_trans z3 (hq _ (.tail _ (.head _)))) (Nat.lt_trans z3 (hq _ (.tail _ (.tail _ (.head _))))) (Nat.lt_trans z3 (hq _ (.tail _ (.tail _ (.tail _ (.head _)))))) (hql _ (.head _)).1 (hql _ (.tail _ (.head _))).1 (hql _ (.tail _ (.tail _ (.head _)))).1 (hql _ (.tail _ (.tail _ (.tail _ (.head _))))).1 (hql _ (.head _)).2 (hql _ (.tail _ (.head _))).2 (hql _ (.tail _ (.tail _ (.head _)))).2 (hql _ (.tail _ (.tail _ (.tail _ (.head _))))).2
    rw [t0, t1, t2, t3] at H
    refine @RunsX.use w 64 L' 10 _ _ _ _ _ _ _ _ _ _ _ _ _ _ _ _ _ _ _ _ _ _ _ _ _ _ _ _ _ _ _ _ _ _ _ _ _ _ _ F N8 (by assumption) (by assumption) (by assumption) (by assumption) (by assumption) (by assumption) (by k_is) (by rfl) (by rfl) H ?_
    exact hret
  case step =>
    rintro v r m' n' ⟨rem, q, npp, ev, hit, hfr, rfl, hq, htot, hlen, hql⟩ ito h tk hc F N
    obtain ⟨it, rem', rfl⟩ : ∃ a b, rem = a :: b := by cases rem with | nil => cases ev | cons a b => exact ⟨a, b, rfl⟩
    obtain ⟨rfl, rfl⟩ : v = .ref it.T ∧ r = rem'.map (fun it => .ref it.T) := by injection ev with e1 e2; exact ⟨e1, e2⟩
    obtain ⟨k0', k4', xl, g0', g12, l3, ll, hff, hss, ⟨kt, mT⟩, mS⟩ := hit it (.head _)
    have hFa : m' (Str.ofString "faults") = some (.ref Fa) := (hfr _ (by decide) (by decide)).trans h3
    have hSp : m' (Str.ofString "spoiled") = some (.ref Sp) := (hfr _ (by decide) (by decide)).trans h15
    have N3 := cb_drop N (news := (I, ito) :: (Pa, W.listOf (q.map (fun p => Value.ref p.1)).toArray npp) :: (it.T, ({ cls := Value.type "tuple", data := .seq #[.int it.k kt, .str it.x it.xt] } : Obj)) :: (Fa, W.listOf #[.int f0 e0, .int f1 e1, .int f2 e2, .int f3 e3] nf) :: (Sp, W.listOf #[.ref S0, .ref S1, .ref S2, .ref S3] nsp) :: (it.S, W.listOf (strValues it.ls).toArray it.ns) :: (L' + 2, o2) :: (objs q ++ rest0)) (by
      refine sub_cons ?_ ?_
      · exact .head _
      refine sub_cons ?_ ?_
      · exact .tail _ (.head _)
      refine sub_cons ?_ ?_
      · exact .tail _ (.tail _ (List.mem_append_right _ mT))
      refine sub_cons ?_ ?_
      · exact .tail _ (.tail _ (List.mem_append_right _ (by rw [← hr0]; exact List.mem_of_mem_drop (i := 11) (.head _))))
      refine sub_cons ?_ ?_
      · exact .tail _ (.tail _ (List.mem_append_right _ (by rw [← hr0]; exact List.mem_of_mem_drop (i := 5) (.head _))))
      refine sub_cons ?_ ?_
      · exact .tail _ (.tail _ (List.mem_append_right _ mS))
      refine sub_cons ?_ ?_
      · exact .tail _ (.tail _ (List.mem_append_right _ (by rw [← hr0]; exact List.mem_of_mem_drop (i := 13) (.head _))))
      · intro p hp
        exact .tail _ (.tail _ hp))
    clear N
    have hPI : Pa < I := hI _ (.head _)
    have hrI : ∀ p ∈ rest0, p.1 < I := fun p hp => hI p (.tail _ hp)
    have hP : ∀ p ∈ (it.T, ({ cls := Value.type "tuple", data := .seq #[.int it.k kt, .str it.x it.xt] } : Obj)) :: (Fa, W.listOf #[.int f0 e0, .int f1 e1, .int f2 e2, .int f3 e3] nf) :: (Sp, W.listOf #[.ref S0, .ref S1, .ref S2, .ref S3] nsp) :: (it.S, W.listOf (strValues it.ls).toArray it.ns) :: (L' + 2, o2) :: (objs q ++ rest0), p.1 ≠ Pa := by
      refine ne_cons ?_ ?_
      · exact hrP _ mT
      refine ne_cons ?_ ?_
      · exact Nat.ne_of_lt a10
      refine ne_cons ?_ ?_
      · exact Nat.ne_of_lt a4
      refine ne_cons ?_ ?_
      · exact hrP _ mS
      refine ne_cons ?_ ?_
      · exact Nat.ne_of_lt (Nat.lt_trans (Nat.lt_succ_self _) a3)
      intro p hp
      rcases List.mem_append.mp hp with hp | hp
      · obtain ⟨y, hy, rfl⟩ := List.mem_map.mp hp
        exact Nat.ne_of_gt (Nat.lt_trans hPI (hq y hy))
      · exact hrP p hp
    have hgd := getD4 hff
    have hsz : (q.map (fun p => Value.ref p.1)).toArray.size ≤ sizeLine := by
      rw [List.size_toArray, List.length_map]
      simp only [List.length_cons] at hlen
      exact Nat.le_trans (show q.length ≤ 4 by omega) (by decide)
    generalize htl : objs q ++ rest0 = tl at N3 hP
    clear hret hI hrP N2 F1 g0 g1 g2 g3 g4 hr0 hw hw2 hwh hwh2 hmo hmo2 hfo hfo2 hzo hzo2 hmi hmi2 hca hca2 hc3 h2 h8 h9 h3 h4 h5 h6 h10 h11 h12 h13 h14 h15 h16 h17 h18 hm hm2 hcl hcl2 hv hv2 hv5 hv52 hf hnm hnl a2 a3 a4 a5 a6 a7 a8 a9 a10 a11 q0 q1 q2 q3 r0 r1 r2 r3 r4 r5 r6 r7 mT mS hff ax
    (k_with "subscriptTail Name Name ref int" => refine item_list (News.isList (by k_asm) (.tail _ (.tail _ (.tail _ (.tail _ (.head _)))))) k0' (by omega) hss ?_)
    k_steps
    k_with_none
    · rename_i A hA F9 N9 lA
      refine append_K F9 N9 (Upd.tail (Nat.ne_of_gt lA.2.1) (Upd.tail (Nat.ne_of_gt hPI) (Upd.head hP))) ?_ hsz
      intro h7 F7 N7
      k_steps
      have N8 := cb_drop N7 (news := (A, W.listOf (strValues [(it.x, it.xt)]).toArray 0) :: (I, ito) :: (Pa, W.listOf ((q.map (fun p => Value.ref p.1)).toArray.push (.ref A)) (npp + 1)) :: (objs q ++ rest0)) (by
        rw [htl]
        refine sub_cons ?_ ?_
        · exact .head _
        refine sub_cons ?_ ?_
        · exact .tail _ (.head _)
        refine sub_cons ?_ ?_
        · exact .tail _ (.tail _ (.head _))
        · intro p hp
          exact List.mem_of_mem_drop (i := 8) (hp))
      exact part_end F7 N8 lA.1 hPI hrI hq (fun y h1 h2 => (if_neg h2).trans ((if_neg h1).trans (hfr y h1 h2))) (fun i hi => hit i (.tail _ hi)) htot (part_lt (by rw [← hgd]; assumption)) hlen hql ⟨by simp, lenC xl len_nil⟩ hli
    · rename_i A hA F9 N9 lA
      refine append_K F9 N9 (Upd.tail (Nat.ne_of_gt lA.2.1) (Upd.tail (Nat.ne_of_gt hPI) (Upd.head hP))) ?_ hsz
      intro h7 F7 N7
      k_steps
      have N8 := cb_drop N7 (news := (A, W.listOf (strValues []).toArray 0) :: (I, ito) :: (Pa, W.listOf ((q.map (fun p => Value.ref p.1)).toArray.push (.ref A)) (npp + 1)) :: (objs q ++ rest0)) (by
        rw [htl]
        refine sub_cons ?_ ?_
        · exact .head _
        refine sub_cons ?_ ?_
        · exact .tail _ (.head _)
        refine sub_cons ?_ ?_
        · exact .tail _ (.tail _ (.head _))
        · intro p hp
          exact List.mem_of_mem_drop (i := 8) (hp))
      exact part_end F7 N8 lA.1 hPI hrI hq (fun y h1 h2 => (if_neg h2).trans ((if_neg h1).trans (hfr y h1 h2))) (fun i hi => hit i (.tail _ hi)) htot (part_eq (by rw [← hgd]; assumption)) hlen hql ⟨by simp, len_nil⟩ hli
    · rename News _ _ _ _ => N9
      refine KTb.item_list (News.isList (by k_asm) (.tail _ (.tail _ (.tail _ (.tail _ (.tail _ (.head _))))))) (strs_of it.ls) (by omega) (by rw [List.length_map, l3]; omega) (by omega) ?_
      intro t' _
      k_steps
      rename_i A hA F8 N8 lA
      refine append_K F8 N8 (Upd.tail (Nat.ne_of_gt lA.2.1) (Upd.tail (Nat.ne_of_gt hPI) (Upd.head hP))) ?_ hsz
      clear N8
      intro h7 F7 N7
      k_steps
      have N8 := cb_drop N7 (news := (A, W.listOf (strValues [((it.ls.map (·.1)).getD ([f0, f1, f2, f3].getD it.k.toNat 0 - 9).toNat Str.empty, t')]).toArray 0) :: (I, ito) :: (Pa, W.listOf ((q.map (fun p => Value.ref p.1)).toArray.push (.ref A)) (npp + 1)) :: (objs q ++ rest0)) (by
        rw [htl]
        refine sub_cons ?_ ?_
        · exact .head _
        refine sub_cons ?_ ?_
        · exact .tail _ (.head _)
        refine sub_cons ?_ ?_
        · exact .tail _ (.tail _ (.head _))
        · intro p hp
          exact List.mem_of_mem_drop (i := 8) (hp))
      exact part_end F7 N8 lA.1 hPI hrI hq (fun y h1 h2 => (if_neg h2).trans ((if_neg h1).trans (hfr y h1 h2))) (fun i hi => hit i (.tail _ hi)) htot (by rw [hgd]; exact part_gt (by rw [← hgd]; assumption) (by rw [← hgd]; assumption)) hlen hql ⟨by simp, lenC (getD_len ll _) len_nil⟩ hli
end
section
theorem reset29 : True := by
  k_with_none
  w_top off
  trivial
set_option maxRecDepth 100000
set_option maxHeartbeats 8000000
theorem d8 (w : World) (m : Str → Option Value) (L' Sp S0 S1 S2 S3 Na Fa Va : Addr) (nms ls0 ls1 ls2 ls3 : List (Str × Tok)) (day year moment : Str) (f0 f1 f2 f3 form week more zone minutes cas : Int) (nn nsp k0 k1 k2 k3 nf n' : Nat) (month clock v0 v1 v2 v3 v4 v5 white : Int) (td ty tm e0 e1 e2 e3 c0 c1 c2 c4 c5 c6 c7 c8 c9 b4 b5 b6 b7 b8 b9 : Tok) (o2 o3 : Obj) (v0b v0c : Option Value) (news : List (Addr × Obj)) (hw : 0 ≤ week) (hw2 : week < 11) (hwh : 0 ≤ white) (hwh2 : white < 8) (hmo : 0 ≤ more) (hmo2 : more < 3) (hfo : 0 ≤ form) (hfo2 : form < 6) (hzo : 0 ≤ zone) (hzo2 : zone < 5) (hmi : 0 ≤ minutes) (hmi2 : minutes < 100) (hca : 0 ≤ cas) (hca2 : cas < 4) (hc2 : o2.data = .cell v0b) (hc3 : o3.data = .cell v0c)
  (h2 : m (Str.ofString "week") = some (.int week c0)) (h8 : m (Str.ofString "white") = some (.int white c4)) (h9 : m (Str.ofString "more") = some (.int more c5)) (h3 : m (Str.ofString "faults") = some (.ref Fa)) (h4 : m (Str.ofString "values") = some (.ref Va)) (h5 : m (Str.ofString "month") = some (.int month c1)) (h6 : m (Str.ofString "clock") = some (.int clock c2)) (h10 : m (Str.ofString "form") = some (.int form c6)) (h11 : m (Str.ofString "zone") = some (.int zone c7)) (h12 : m (Str.ofString "minutes") = some (.int minutes c8)) (h13 : m (Str.ofString "case") = some (.int cas c9))
  (h14 : m (Str.ofString "names") = some (.ref Na)) (h15 : m (Str.ofString "spoiled") = some (.ref Sp)) (h16 : m (Str.ofString "day") = some (.str day td)) (h17 : m (Str.ofString "year") = some (.str year ty)) (h18 : m (Str.ofString "moment") = some (.str moment tm)) (hm : 0 ≤ month) (hm2 : month < 24) (hcl : 0 ≤ clock) (hcl2 : clock < 8) (hv : 0 ≤ v1) (hv2 : v1 < 100000000000000000000) (hv5 : 0 ≤ v5) (hv52 : v5 < 100000000000000000000)
  (hf : ∀ f ∈ [f0, f1, f2, f3], 0 ≤ f ∧ f < 12) (hnm : nms.map (·.1) = nameTab)
  (hnl : ∀ p ∈ news, p.1 < L') (a2 : L' + 3 < Va) (a4 : L' + 3 < Sp) (a5 : L' + 3 < S0) (a6 : L' + 3 < S1) (a7 : L' + 3 < S2) (a8 : L' + 3 < S3) (a9 : L' + 3 < Na) (a10 : L' + 3 < Fa)
  (q0 : ls0.length = 3) (q1 : ls1.length = 3) (q2 : ls2.length = 3) (q3 : ls3.length = 3) (r0 : ∀ p ∈ ls0, p.1.length ≤ 80) (r1 : ∀ p ∈ ls1, p.1.length ≤ 80) (r2 : ∀ p ∈ ls2, p.1.length ≤ 80) (r3 : ∀ p ∈ ls3, p.1.length ≤ 80) (r4 : day.length ≤ 80) (r5 : year.length ≤ 80) (r6 : moment.length ≤ 80) :
    RunsX w 64 L' 8 m ((Sp, W.listOf #[.ref S0, .ref S1, .ref S2, .ref S3] nsp) :: (S0, W.listOf (strValues ls0).toArray k0) :: (S1, W.listOf (strValues ls1).toArray k1) :: (S2, W.listOf (strValues ls2).toArray k2) :: (S3, W.listOf (strValues ls3).toArray k3) :: (Na, W.listOf (strValues nms).toArray nn) :: (Fa, W.listOf #[.int f0 e0, .int f1 e1, .int f2 e2, .int f3 e3] nf) :: (Va, W.listOf #[.int v0 b4, .int v1 b5, .int v2 b6, .int v3 b7, .int v4 b8, .int v5 b9] n') :: (L' + 2, o2) :: (L' + 3, o3) :: news) 3
      (DateR (txtOf white (wkW week (moreW more (zTxt zone v5 minutes cas (goodOf f0 f1 f2 f3 && decide (form < 4))).toList (wordsOf (ordTab.getD form.toNat []) (partOf f0 day (ls0.map (·.1))) (partOf f1 (caseOf (nameTab.getD month.toNat Str.empty) cas) (ls1.map (·.1))) (partOf f2 year (ls2.map (·.1))) (partOf f3 moment (ls3.map (·.1))) (zTxt zone v5 minutes cas (goodOf f0 f1 f2 f3 && decide (form < 4))).toList)))) (dueOf (goodOf f0 f1 f2 f3) month clock (zOff zone v5 minutes) v0 v1 v2 v3 v4) news) := by
  ((k_dflt (refine' RunsX.intro (cls := [(Str.ofString "zoned", _ + 3), (Str.ofString "parts", _ + 2), (Str.ofString "zeros", _ + 1)]) ?ho ?hb ?hc ?_; (case ho => k_is); (case hb => rfl); (case hc => rfl))); intro _ _ _ _ _ _ _ _ _ _ _ _ _ _ _ _ _ _ _ _ _ _ _ _ _ _)
  intro hret
  refine execs_step ?_
  k_steps
  rename_i P hP F1 N1 g1
  obtain ⟨y1, y2, y3, y4, y5, y6, y7, y8, y9, y10, y11⟩ := g1
  have cl : ∀ {b : Addr}, L' + 3 < b → b ≠ L' + 2 := fun h => Nat.ne_of_gt (Nat.lt_trans (Nat.lt_succ_self _) h)
  have hpost : ∀ p ∈ (L' + 3, o3) :: news, p.1 ≠ L' + 2 := by
    intro p hp
    rcases List.mem_cons.mp hp with rfl | hp
    · exact Nat.ne_of_gt (Nat.lt_succ_self (L' + 2))
    · exact Nat.ne_of_lt (Nat.lt_of_lt_of_le (hnl p hp) (Nat.le_add_right _ _))
  refine storeX_C (c := L' + 2) F1 N1 rfl (.tail (cl y10) (.tail (cl a4) (.tail (cl a5) (.tail (cl a6) (.tail (cl a7) (.tail (cl a8) (.tail (cl a9) (.tail (cl a10) (.tail (cl a2) (.head hpost)))))))))) hc2 ?_
  intro h7 o7 F7 N7 hc7
  k_steps
  refine Hold.mk ?_
  dsimp only
  have H := d9 w m L' Sp S0 S1 S2 S3 Na Fa Va P nms ls0 ls1 ls2 ls3 day year moment f0 f1 f2 f3 form week more zone minutes cas nn nsp k0 k1 k2 k3 nf n' 0 month clock v0 v1 v2 v3 v4 v5 white td ty tm e0 e1 e2 e3 c0 c1 c2 c4 c5 c6 c7 c8 c9 b4 b5 b6 b7 b8 b9 o7 o3 v0c news hw hw2 hwh hwh2 hmo hmo2 hfo hfo2 hzo hzo2 hmi hmi2 hca hca2 hc7 hc3 h2 h8 h9 h3 h4 h5 h6 h10 h11 h12 h13 h14 h15 h16 h17 h18 hm hm2 hcl hcl2 hv hv2 hv5 hv52 hf hnm hnl a2 y10 y1 y2 y3 y4 y5 y6 y7 y8 q0 q1 q2 q3 r0 r1 r2 r3 r4 r5 r6
  refine @RunsX.use w 64 L' 9 _ _ _ _ _ _ _ _ _ _ _ _ _ _ _ _ _ _ _ _ _ _ _ _ _ _ _ _ _ _ _ _ _ _ _ _ _ _ _ F7 N7 (by assumption) (by assumption) (by assumption) (by assumption) (by assumption) (by assumption) (by k_is) (by rfl) (by rfl) H ?_
  exact hret
end
section
theorem reset30 : True := by
  k_with_none
  w_top off
  trivial
set_option maxRecDepth 100000
set_option maxHeartbeats 8000000
noncomputable def sp0 (day : Str) : List Str := [Str.ofString "x", day ++ Str.ofString "x", Str.ofString "x" ++ day]
noncomputable def sp1 (month : Int) : List Str := [nameTab.getD month.toNat Str.empty ++ Str.ofString "n", Str.ofString (toString month), Txt.slice (nameTab.getD month.toNat Str.empty) none (some 2)]
noncomputable def sp2 (year : Str) : List Str := [year ++ Str.ofString "x", year ++ Str.ofString "e1", year ++ Str.ofString "/"]
noncomputable def sp3 (hour mark : Str) : List Str := [hour, Txt.join mark (signs (Str.ofString "1234")), hour ++ Str.ofString ":x"]
theorem app_len {a b : Str} {n k : Nat} (h : a.length ≤ n) (h2 : b.length ≤ k) (h3 : n + k ≤ 80) : (a ++ b).length ≤ 80 := by
  rw [Str.length_append]; omega
theorem len3 {x y z : Str} {a b c : Tok} (hx : x.length ≤ 80) (hy : y.length ≤ 80) (hz : z.length ≤ 80) : ∀ p ∈ [(x, a), (y, b), (z, c)], p.1.length ≤ 80 := lenC hx (lenC hy (lenC hz len_nil))
theorem d7 (w : World) (m : Str → Option Value) (L' Na Fa Va : Addr) (nms : List (Str × Tok)) (day year hour mark moment : Str) (f0 f1 f2 f3 form week more zone minutes cas : Int) (nn nf n' : Nat) (month clock v0 v1 v2 v3 v4 v5 white : Int) (td ty tm th tk e0 e1 e2 e3 c0 c1 c2 c4 c5 c6 c7 c8 c9 b4 b5 b6 b7 b8 b9 : Tok) (o2 o3 : Obj) (v0b v0c : Option Value) (news : List (Addr × Obj)) (hw : 0 ≤ week) (hw2 : week < 11) (hwh : 0 ≤ white) (hwh2 : white < 8) (hmo : 0 ≤ more) (hmo2 : more < 3) (hfo : 0 ≤ form) (hfo2 : form < 6) (hzo : 0 ≤ zone) (hzo2 : zone < 5) (hmi : 0 ≤ minutes) (hmi2 : minutes < 100) (hca : 0 ≤ cas) (hca2 : cas < 4) (hc2 : o2.data = .cell v0b) (hc3 : o3.data = .cell v0c)
  (h2 : m (Str.ofString "week") = some (.int week c0)) (h8 : m (Str.ofString "white") = some (.int white c4)) (h9 : m (Str.ofString "more") = some (.int more c5)) (h3 : m (Str.ofString "faults") = some (.ref Fa)) (h4 : m (Str.ofString "values") = some (.ref Va)) (h5 : m (Str.ofString "month") = some (.int month c1)) (h6 : m (Str.ofString "clock") = some (.int clock c2)) (h10 : m (Str.ofString "form") = some (.int form c6)) (h11 : m (Str.ofString "zone") = some (.int zone c7)) (h12 : m (Str.ofString "minutes") = some (.int minutes c8)) (h13 : m (Str.ofString "case") = some (.int cas c9))
  (h14 : m (Str.ofString "names") = some (.ref Na)) (h15 : m (Str.ofString "hour") = some (.str hour th)) (h16 : m (Str.ofString "day") = some (.str day td)) (h17 : m (Str.ofString "year") = some (.str year ty)) (h18 : m (Str.ofString "moment") = some (.str moment tm)) (h19 : m (Str.ofString "mark") = some (.str mark tk)) (hm : 0 ≤ month) (hm2 : month < 24) (hcl : 0 ≤ clock) (hcl2 : clock < 8) (hv : 0 ≤ v1) (hv2 : v1 < 100000000000000000000) (hv5 : 0 ≤ v5) (hv52 : v5 < 100000000000000000000)
  (hf : ∀ f ∈ [f0, f1, f2, f3], 0 ≤ f ∧ f < 12) (hnm : nms.map (·.1) = nameTab) (hmk : mark = Str.ofString "." ∨ mark = Str.ofString ":")
  (hnl : ∀ p ∈ news, p.1 < L') (a2 : L' + 3 < Va) (a9 : L' + 3 < Na) (a10 : L' + 3 < Fa)
  (r4 : day.length ≤ 30) (r5 : year.length ≤ 30) (r6 : moment.length ≤ 80) (r7 : hour.length ≤ 30) :
    RunsX w 64 L' 7 m ((Na, W.listOf (strValues nms).toArray nn) :: (Fa, W.listOf #[.int f0 e0, .int f1 e1, .int f2 e2, .int f3 e3] nf) :: (Va, W.listOf #[.int v0 b4, .int v1 b5, .int v2 b6, .int v3 b7, .int v4 b8, .int v5 b9] n') :: (L' + 2, o2) :: (L' + 3, o3) :: news) 3
      (DateR (txtOf white (wkW week (moreW more (zTxt zone v5 minutes cas (goodOf f0 f1 f2 f3 && decide (form < 4))).toList (wordsOf (ordTab.getD form.toNat []) (partOf f0 day (sp0 day)) (partOf f1 (caseOf (nameTab.getD month.toNat Str.empty) cas) (sp1 month)) (partOf f2 year (sp2 year)) (partOf f3 moment (sp3 hour mark)) (zTxt zone v5 minutes cas (goodOf f0 f1 f2 f3 && decide (form < 4))).toList)))) (dueOf (goodOf f0 f1 f2 f3) month clock (zOff zone v5 minutes) v0 v1 v2 v3 v4) news) := by
  ((k_dflt (refine' RunsX.intro (cls := [(Str.ofString "zoned", _ + 3), (Str.ofString "parts", _ + 2), (Str.ofString "zeros", _ + 1)]) ?ho ?hb ?hc ?_; (case ho => k_is); (case hb => rfl); (case hc => rfl))); intro _ _ _ _ _ _ _ _ _ _ _ _ _ _ _ _ _ _ _ _ _ _ _ _ _ _)
  intro hret
  refine execs_step ?_
  have hst : StrsAre (strValues nms) nameTab := hnm ▸ strs_of nms
  have r8 := nameTab_len month
  have hml : mark.length ≤ 15 := by rcases hmk with rfl | rfl <;> decide +kernel
  (k_with "subscriptTail Name Name ref int" => apply Hold.out)
  k_steps
  refine Hold.mk ?_
  k_with_none
  refine KTb.item_list (News.isList (by k_asm) (.tail _ (.head _))) hst hm hm2 (by omega) ?_
  intro t1 _
  (k_with "call builtin:str.join cons nil" => apply Hold.out)
  k_steps
  refine Hold.mk ?_
  k_with_none
  refine join_strF (by rfl) (by k_asm) (by k_asm) (joinOk_signsN (N := 10) (S := 15) (by decide +kernel) hml (by decide)) ?_
  intro hh6 k6 t6 F6 N6
  k_steps
  rename_i ta1 _ _ ta2 _ _ S0 _ g0 _ tb1 _ _ tb2 _ tb3 _ _ S1 _ g1 tc1 _ _ tc2 _ _ tc3 _ _ S2 _ g2 te _ _ S3 _ g3 Sp _ g4 _ F9 N9
  refine Hold.mk ?_
  dsimp only
  have N8 := cb_drop N9 (news := (Sp, W.listOf #[.ref S0, .ref S1, .ref S2, .ref S3] 0) :: (S0, W.listOf (strValues [(Str.ofString "x", _), (day ++ Str.ofString "x", ta1), (Str.ofString "x" ++ day, ta2)]).toArray 0) :: (S1, W.listOf (strValues [(nameTab.getD month.toNat Str.empty ++ Str.ofString "n", _), (Str.ofString (toString month), _), (Txt.slice (nameTab.getD month.toNat Str.empty) none (some 2), _)]).toArray 0) :: (S2, W.listOf (strValues [(year ++ Str.ofString "x", _), (year ++ Str.ofString "e1", _), (year ++ Str.ofString "/", _)]).toArray 0) :: (S3, W.listOf (strValues [(hour, th), (Txt.join mark (signs (Str.ofString "1234")), _), (hour ++ Str.ofString ":x", _)]).toArray 0) :: (Na, W.listOf (strValues nms).toArray nn) :: (Fa, W.listOf #[.int f0 e0, .int f1 e1, .int f2 e2, .int f3 e3] nf) :: (Va, W.listOf #[.int v0 b4, .int v1 b5, .int v2 b6, .int v3 b7, .int v4 b8, .int v5 b9] n') :: (L' + 2, o2) :: (L' + 3, o3) :: news) (fun p hp => by
    rcases List.mem_cons.mp hp with rfl | hp
    · exact .head _
    rcases List.mem_cons.mp hp with rfl | hp
    · exact .tail _ (.tail _ (.tail _ (.tail _ (.head _))))
    rcases List.mem_cons.mp hp with rfl | hp
    · exact .tail _ (.tail _ (.tail _ (.head _)))
    rcases List.mem_cons.mp hp with rfl | hp
    · exact .tail _ (.tail _ (.head _))
    rcases List.mem_cons.mp hp with rfl | hp
    · exact .tail _ (.head _)
    · (iterate 5 refine .tail _ ?_); exact hp)
  clear N9
  have hj : (Txt.join mark (signs (Str.ofString "1234"))).length ≤ 80 := by rcases hmk with rfl | rfl <;> decide +kernel
  have x1 : (Str.ofString "x").length ≤ 5 := by decide +kernel
  have x2 : (Str.ofString "e1").length ≤ 5 := by decide +kernel
  have x3 : (Str.ofString "/").length ≤ 5 := by decide +kernel
  have x4 : (Str.ofString ":x").length ≤ 5 := by decide +kernel
  have x5 : (Str.ofString "n").length ≤ 5 := by decide +kernel
  have H := fun (u0 u1 u2 u3 u4 u5 u6 u7 u8 u9 u10 u11 : Tok) => d8 w (fun y => if y = Str.ofString "spoiled" then some (Value.ref Sp) else m y) L' Sp S0 S1 S2 S3 Na Fa Va nms [(Str.ofString "x", u0), (day ++ Str.ofString "x", u1), (Str.ofString "x" ++ day, u2)] [(nameTab.getD month.toNat Str.empty ++ Str.ofString "n", u3), (Str.ofString (toString month), u4), (Txt.slice (nameTab.getD month.toNat Str.empty) none (some 2), u5)] [(year ++ Str.ofString "x", u6), (year ++ Str.ofString "e1", u7), (year ++ Str.ofString "/", u8)] [(hour, u9), (Txt.join mark (signs (Str.ofString "1234")), u10), (hour ++ Str.ofString ":x", u11)] day year moment f0 f1 f2 f3 form week more zone minutes cas nn 0 0 0 0 0 nf n' month clock v0 v1 v2 v3 v4 v5 white td ty tm e0 e1 e2 e3 c0 c1 c2 c4 c5 c6 c7 c8 c9 b4 b5 b6 b7 b8 b9 o2 o3 v0b v0c news hw hw2 hwh hwh2 hmo hmo2 hfo hfo2 hzo hzo2 hmi hmi2 hca hca2 hc2 hc3 h2 h8 h9 h3 h4 h5 h6 h10 h11 h12 h13 h14 rfl h16 h17 h18 hm hm2 hcl hcl2 hv hv2 hv5 hv52 hf hnm hnl a2 (show L' + 3 < Sp from g4.2.2.2.2.2.2.2.2.1) (show L' + 3 < S0 from g0.2.2.2.2.1) (show L' + 3 < S1 from g1.2.2.2.2.2.1) (show L' + 3 < S2 from g2.2.2.2.2.2.2.1) (show L' + 3 < S3 from g3.2.2.2.2.2.2.2.1) a9 a10 rfl rfl rfl rfl
    (len3 (Nat.le_trans x1 (by decide)) (app_len r4 x1 (by decide)) (app_len x1 r4 (by decide))) (len3 (app_len r8 x5 (by decide)) (Nat.le_trans (num_len hm (by omega)) (by decide)) (Nat.le_trans (Txt.slice_le _ _ _) (Nat.le_trans r8 (by decide)))) (len3 (app_len r5 x1 (by decide)) (app_len r5 x2 (by decide)) (app_len r5 x3 (by decide))) (len3 (Nat.le_trans r7 (by decide)) hj (app_len r7 x4 (by decide))) (Nat.le_trans r4 (by decide)) (Nat.le_trans r5 (by decide)) r6
  refine @RunsX.use w 64 L' 8 _ _ _ _ _ _ _ _ _ _ _ _ _ _ _ _ _ _ _ _ _ _ _ _ _ _ _ _ _ _ _ _ _ _ _ _ _ _ _ F9 N8 (by assumption) (by assumption) (by assumption) (by assumption) (by assumption) (by assumption) (by k_is) (by rfl) (by rfl) (H _ _ _ _ _ _ _ _ _ _ _ _) ?_
  exact hret
end
section
theorem reset31 : True := by
  k_with_none
  w_top off
  trivial
set_option maxRecDepth 100000
set_option maxHeartbeats 8000000
noncomputable def momOf (hour minute second mark : Str) (clock : Int) : Str := hour ++ mark ++ minute ++ (if clock % 2 = 1 then mark ++ second else Str.ofString "") ++ (if 4 ≤ clock then Str.ofString "," else Str.ofString "")
theorem mom_len {hour minute second mark : Str} {clock : Int} (r7 : hour.length ≤ 23) (r8 : minute.length ≤ 23) (r9 : second.length ≤ 23) (hk : mark.length ≤ 1) : (momOf hour minute second mark clock).length ≤ 80 := by
  unfold momOf
  have x1 : (Str.ofString "").length = 0 := by decide +kernel
  have x2 : (Str.ofString ",").length = 1 := by decide +kernel
  rw [Str.length_append, Str.length_append, Str.length_append, Str.length_append]
  split <;> split <;> simp only [Str.length_append, x1, x2] <;> omega
theorem d6 (w : World) (m : Str → Option Value) (L' Na Fa Va : Addr) (nms : List (Str × Tok)) (day year hour minute second mark : Str) (f0 f1 f2 f3 form week more zone minutes cas : Int) (nn nf n' : Nat) (month clock v0 v1 v2 v3 v4 v5 white : Int) (td ty tmi ts th tk e0 e1 e2 e3 c0 c1 c2 c4 c5 c6 c7 c8 c9 b4 b5 b6 b7 b8 b9 : Tok) (o2 o3 : Obj) (v0b v0c : Option Value) (news : List (Addr × Obj)) (hw : 0 ≤ week) (hw2 : week < 11) (hwh : 0 ≤ white) (hwh2 : white < 8) (hmo : 0 ≤ more) (hmo2 : more < 3) (hfo : 0 ≤ form) (hfo2 : form < 6) (hzo : 0 ≤ zone) (hzo2 : zone < 5) (hmi : 0 ≤ minutes) (hmi2 : minutes < 100) (hca : 0 ≤ cas) (hca2 : cas < 4) (hc2 : o2.data = .cell v0b) (hc3 : o3.data = .cell v0c)
  (h2 : m (Str.ofString "week") = some (.int week c0)) (h8 : m (Str.ofString "white") = some (.int white c4)) (h9 : m (Str.ofString "more") = some (.int more c5)) (h3 : m (Str.ofString "faults") = some (.ref Fa)) (h4 : m (Str.ofString "values") = some (.ref Va)) (h5 : m (Str.ofString "month") = some (.int month c1)) (h6 : m (Str.ofString "clock") = some (.int clock c2)) (h10 : m (Str.ofString "form") = some (.int form c6)) (h11 : m (Str.ofString "zone") = some (.int zone c7)) (h12 : m (Str.ofString "minutes") = some (.int minutes c8)) (h13 : m (Str.ofString "case") = some (.int cas c9))
  (h14 : m (Str.ofString "names") = some (.ref Na)) (h15 : m (Str.ofString "hour") = some (.str hour th)) (h16 : m (Str.ofString "day") = some (.str day td)) (h17 : m (Str.ofString "year") = some (.str year ty)) (h20 : m (Str.ofString "minute") = some (.str minute tmi)) (h21 : m (Str.ofString "second") = some (.str second ts)) (h19 : m (Str.ofString "mark") = some (.str mark tk)) (hm : 0 ≤ month) (hm2 : month < 24) (hcl : 0 ≤ clock) (hcl2 : clock < 8) (hv : 0 ≤ v1) (hv2 : v1 < 100000000000000000000) (hv5 : 0 ≤ v5) (hv52 : v5 < 100000000000000000000)
  (hf : ∀ f ∈ [f0, f1, f2, f3], 0 ≤ f ∧ f < 12) (hnm : nms.map (·.1) = nameTab) (hmk : mark = Str.ofString "." ∨ mark = Str.ofString ":")
  (hnl : ∀ p ∈ news, p.1 < L') (a2 : L' + 3 < Va) (a9 : L' + 3 < Na) (a10 : L' + 3 < Fa)
  (r4 : day.length ≤ 23) (r5 : year.length ≤ 23) (r7 : hour.length ≤ 23) (r8 : minute.length ≤ 23) (r9 : second.length ≤ 23) :
    RunsX w 64 L' 6 m ((Na, W.listOf (strValues nms).toArray nn) :: (Fa, W.listOf #[.int f0 e0, .int f1 e1, .int f2 e2, .int f3 e3] nf) :: (Va, W.listOf #[.int v0 b4, .int v1 b5, .int v2 b6, .int v3 b7, .int v4 b8, .int v5 b9] n') :: (L' + 2, o2) :: (L' + 3, o3) :: news) 3
      (DateR (txtOf white (wkW week (moreW more (zTxt zone v5 minutes cas (goodOf f0 f1 f2 f3 && decide (form < 4))).toList (wordsOf (ordTab.getD form.toNat []) (partOf f0 day (sp0 day)) (partOf f1 (caseOf (nameTab.getD month.toNat Str.empty) cas) (sp1 month)) (partOf f2 year (sp2 year)) (partOf f3 (momOf hour minute second mark clock) (sp3 hour mark)) (zTxt zone v5 minutes cas (goodOf f0 f1 f2 f3 && decide (form < 4))).toList)))) (dueOf (goodOf f0 f1 f2 f3) month clock (zOff zone v5 minutes) v0 v1 v2 v3 v4) news) := by
  have hml : mark.length ≤ 1 := by rcases hmk with rfl | rfl <;> decide +kernel
  have r6 : (momOf hour minute second mark clock).length ≤ 80 := mom_len r7 r8 r9 hml
  have hfm : clock.fmod 2 = clock % 2 := Int.fmod_eq_emod_of_nonneg _ (by decide)
  ((k_dflt (refine' RunsX.intro (cls := [(Str.ofString "zoned", _ + 3), (Str.ofString "parts", _ + 2), (Str.ofString "zeros", _ + 1)]) ?ho ?hb ?hc ?_; (case ho => k_is); (case hb => rfl); (case hc => rfl))); intro _ _ _ _ _ _ _ _ _ _ _ _ _ _ _ _ _ _ _ _ _ _ _ _ _ _)
  intro hret
  refine execs_step ?_
  k_steps
  all_goals (
    rename Fr _ _ _ _ => F9
    rename News _ _ _ _ => N9
    refine Hold.mk ?_
    dsimp only
    have H : ∀ (mo : Str) (tm : Tok), mo = momOf hour minute second mark clock → RunsX w 64 L' 7 (fun y => if y = Str.ofString "moment" then some (Value.str mo tm) else m y) ((Na, W.listOf (strValues nms).toArray nn) :: (Fa, W.listOf #[.int f0 e0, .int f1 e1, .int f2 e2, .int f3 e3] nf) :: (Va, W.listOf #[.int v0 b4, .int v1 b5, .int v2 b6, .int v3 b7, .int v4 b8, .int v5 b9] n') :: (L' + 2, o2) :: (L' + 3, o3) :: news) 3 (DateR (txtOf white (wkW week (moreW more (zTxt zone v5 minutes cas (goodOf f0 f1 f2 f3 && decide (form < 4))).toList (wordsOf (ordTab.getD form.toNat []) (partOf f0 day (sp0 day)) (partOf f1 (caseOf (nameTab.getD month.toNat Str.empty) cas) (sp1 month)) (partOf f2 year (sp2 year)) (partOf f3 (momOf hour minute second mark clock) (sp3 hour mark)) (zTxt zone v5 minutes cas (goodOf f0 f1 f2 f3 && decide (form < 4))).toList)))) (dueOf (goodOf f0 f1 f2 f3) month clock (zOff zone v5 minutes) v0 v1 v2 v3 v4) news) := by
      intro mo tm em
      subst em
      exact d7 w (fun y => if y = Str.ofString "moment" then some (Value.str _ tm) else m y) L' Na Fa Va nms day year hour mark _ f0 f1 f2 f3 form week more zone minutes cas nn nf n' month clock v0 v1 v2 v3 v4 v5 white td ty tm th tk e0 e1 e2 e3 c0 c1 c2 c4 c5 c6 c7 c8 c9 b4 b5 b6 b7 b8 b9 o2 o3 v0b v0c news hw hw2 hwh hwh2 hmo hmo2 hfo hfo2 hzo hzo2 hmi hmi2 hca hca2 hc2 hc3 h2 h8 h9 h3 h4 h5 h6 h10 h11 h12 h13 h14 h15 h16 h17 rfl h19 hm hm2 hcl hcl2 hv hv2 hv5 hv52 hf hnm hmk hnl a2 a9 a10 (Nat.le_trans r4 (by decide)) (Nat.le_trans r5 (by decide)) r6 (Nat.le_trans r7 (by decide))
    refine @RunsX.use w 64 L' 7 _ _ _ _ _ _ _ _ _ _ _ _ _ _ _ _ _ _ _ _ _ _ _ _ _ _ _ _ _ _ _ _ _ _ _ _ _ _ _ F9 N9 (by assumption) (by assumption) (by assumption) (by assumption) (by assumption) (by assumption) (by k_is) (by rfl) (by rfl) (H _ _ ?em) ?_
    case em =>
      unfold momOf
      rw [← hfm]
      first
        | rw [if_pos (by assumption), if_pos (by assumption)]
        | rw [if_pos (by assumption), if_neg (by assumption)]
        | rw [if_neg (by assumption), if_pos (by assumption)]
        | rw [if_neg (by assumption), if_neg (by assumption)]
    exact hret)
end
section
theorem reset32 : True := by
  k_with_none
  w_top off
  trivial
set_option maxRecDepth 100000
set_option maxHeartbeats 8000000
noncomputable def markOf (clock form : Int) : Str := if 2 ≤ clock % 4 ∧ form < 2 then Str.ofString "." else Str.ofString ":"
theorem d5 (w : World) (m : Str → Option Value) (L' Na Fa Va : Addr) (nms : List (Str × Tok)) (day year hour minute second : Str) (f0 f1 f2 f3 form week more zone minutes cas : Int) (nn nf n' : Nat) (month clock v0 v1 v2 v3 v4 v5 white : Int) (td ty tmi ts th e0 e1 e2 e3 c0 c1 c2 c4 c5 c6 c7 c8 c9 b4 b5 b6 b7 b8 b9 : Tok) (o2 o3 : Obj) (v0b v0c : Option Value) (news : List (Addr × Obj)) (hw : 0 ≤ week) (hw2 : week < 11) (hwh : 0 ≤ white) (hwh2 : white < 8) (hmo : 0 ≤ more) (hmo2 : more < 3) (hfo : 0 ≤ form) (hfo2 : form < 6) (hzo : 0 ≤ zone) (hzo2 : zone < 5) (hmi : 0 ≤ minutes) (hmi2 : minutes < 100) (hca : 0 ≤ cas) (hca2 : cas < 4) (hc2 : o2.data = .cell v0b) (hc3 : o3.data = .cell v0c)
  (h2 : m (Str.ofString "week") = some (.int week c0)) (h8 : m (Str.ofString "white") = some (.int white c4)) (h9 : m (Str.ofString "more") = some (.int more c5)) (h3 : m (Str.ofString "faults") = some (.ref Fa)) (h4 : m (Str.ofString "values") = some (.ref Va)) (h5 : m (Str.ofString "month") = some (.int month c1)) (h6 : m (Str.ofString "clock") = some (.int clock c2)) (h10 : m (Str.ofString "form") = some (.int form c6)) (h11 : m (Str.ofString "zone") = some (.int zone c7)) (h12 : m (Str.ofString "minutes") = some (.int minutes c8)) (h13 : m (Str.ofString "case") = some (.int cas c9))
  (h14 : m (Str.ofString "names") = some (.ref Na)) (h15 : m (Str.ofString "hour") = some (.str hour th)) (h16 : m (Str.ofString "day") = some (.str day td)) (h17 : m (Str.ofString "year") = some (.str year ty)) (h20 : m (Str.ofString "minute") = some (.str minute tmi)) (h21 : m (Str.ofString "second") = some (.str second ts)) (hm : 0 ≤ month) (hm2 : month < 24) (hcl : 0 ≤ clock) (hcl2 : clock < 8) (hv : 0 ≤ v1) (hv2 : v1 < 100000000000000000000) (hv5 : 0 ≤ v5) (hv52 : v5 < 100000000000000000000)
  (hf : ∀ f ∈ [f0, f1, f2, f3], 0 ≤ f ∧ f < 12) (hnm : nms.map (·.1) = nameTab)
  (hnl : ∀ p ∈ news, p.1 < L') (a2 : L' + 3 < Va) (a9 : L' + 3 < Na) (a10 : L' + 3 < Fa)
  (r4 : day.length ≤ 23) (r5 : year.length ≤ 23) (r7 : hour.length ≤ 23) (r8 : minute.length ≤ 23) (r9 : second.length ≤ 23) :
    RunsX w 64 L' 5 m ((Na, W.listOf (strValues nms).toArray nn) :: (Fa, W.listOf #[.int f0 e0, .int f1 e1, .int f2 e2, .int f3 e3] nf) :: (Va, W.listOf #[.int v0 b4, .int v1 b5, .int v2 b6, .int v3 b7, .int v4 b8, .int v5 b9] n') :: (L' + 2, o2) :: (L' + 3, o3) :: news) 3
      (DateR (txtOf white (wkW week (moreW more (zTxt zone v5 minutes cas (goodOf f0 f1 f2 f3 && decide (form < 4))).toList (wordsOf (ordTab.getD form.toNat []) (partOf f0 day (sp0 day)) (partOf f1 (caseOf (nameTab.getD month.toNat Str.empty) cas) (sp1 month)) (partOf f2 year (sp2 year)) (partOf f3 (momOf hour minute second (markOf clock form) clock) (sp3 hour (markOf clock form))) (zTxt zone v5 minutes cas (goodOf f0 f1 f2 f3 && decide (form < 4))).toList)))) (dueOf (goodOf f0 f1 f2 f3) month clock (zOff zone v5 minutes) v0 v1 v2 v3 v4) news) := by
  have hfm : clock.fmod 4 = clock % 4 := Int.fmod_eq_emod_of_nonneg _ (by decide)
  have hmk : markOf clock form = Str.ofString "." ∨ markOf clock form = Str.ofString ":" := by unfold markOf; split; exact .inl rfl; exact .inr rfl
  ((k_dflt (refine' RunsX.intro (cls := [(Str.ofString "zoned", _ + 3), (Str.ofString "parts", _ + 2), (Str.ofString "zeros", _ + 1)]) ?ho ?hb ?hc ?_; (case ho => k_is); (case hb => rfl); (case hc => rfl))); intro _ _ _ _ _ _ _ _ _ _ _ _ _ _ _ _ _ _ _ _ _ _ _ _ _ _)
  intro hret
  refine execs_step ?_
  k_steps
  all_goals (
    rename Fr _ _ _ _ => F9
    rename News _ _ _ _ => N9
    refine Hold.mk ?_
    dsimp only
    have H : ∀ (mk : Str) (tk : Tok), mk = markOf clock form → RunsX w 64 L' 6 (fun y => if y = Str.ofString "mark" then some (Value.str mk tk) else m y) ((Na, W.listOf (strValues nms).toArray nn) :: (Fa, W.listOf #[.int f0 e0, .int f1 e1, .int f2 e2, .int f3 e3] nf) :: (Va, W.listOf #[.int v0 b4, .int v1 b5, .int v2 b6, .int v3 b7, .int v4 b8, .int v5 b9] n') :: (L' + 2, o2) :: (L' + 3, o3) :: news) 3 (DateR (txtOf white (wkW week (moreW more (zTxt zone v5 minutes cas (goodOf f0 f1 f2 f3 && decide (form < 4))).toList (wordsOf (ordTab.getD form.toNat []) (partOf f0 day (sp0 day)) (partOf f1 (caseOf (nameTab.getD month.toNat Str.empty) cas) (sp1 month)) (partOf f2 year (sp2 year)) (partOf f3 (momOf hour minute second (markOf clock form) clock) (sp3 hour (markOf clock form))) (zTxt zone v5 minutes cas (goodOf f0 f1 f2 f3 && decide (form < 4))).toList)))) (dueOf (goodOf f0 f1 f2 f3) month clock (zOff zone v5 minutes) v0 v1 v2 v3 v4) news) := by
      intro mk tk em
      subst em
      exact d6 w (fun y => if y = Str.ofString "mark" then some (Value.str _ tk) else m y) L' Na Fa Va nms day year hour minute second _ f0 f1 f2 f3 form week more zone minutes cas nn nf n' month clock v0 v1 v2 v3 v4 v5 white td ty tmi ts th tk e0 e1 e2 e3 c0 c1 c2 c4 c5 c6 c7 c8 c9 b4 b5 b6 b7 b8 b9 o2 o3 v0b v0c news hw hw2 hwh hwh2 hmo hmo2 hfo hfo2 hzo hzo2 hmi hmi2 hca hca2 hc2 hc3 h2 h8 h9 h3 h4 h5 h6 h10 h11 h12 h13 h14 h15 h16 h17 h20 h21 rfl hm hm2 hcl hcl2 hv hv2 hv5 hv52 hf hnm hmk hnl a2 a9 a10 r4 r5 r7 r8 r9
    refine @RunsX.use w 64 L' 6 _ _ _ _ _ _ _ _ _ _ _ _ _ _ _ _ _ _ _ _ _ _ _ _ _ _ _ _ _ _ _ _ _ _ _ _ _ _ _ F9 N9 (by assumption) (by assumption) (by assumption) (by assumption) (by assumption) (by assumption) (by k_is) (by rfl) (by rfl) (H _ _ ?em) ?_
    case em =>
      unfold markOf
      rw [← hfm]
      first
        | rw [if_pos ⟨by assumption, by assumption⟩]
        | rw [if_neg (by omega)]
    exact hret)
end
section
theorem reset33 : True := by
  k_with_none
  w_top off
  trivial
set_option maxRecDepth 100000
set_option maxHeartbeats 8000000
open PyProof.Rows.LCg
noncomputable def dStr (zeros v : Int) : Str := Txt.mul (Str.ofString "0") zeros ++ Str.ofString (toString v)
theorem dStr_len {zeros v : Int} (hv : 0 ≤ v) (hv2 : v < 100000000000000000000) (hz : 0 ≤ zeros) (hz2 : zeros < 4) : (dStr zeros v).length ≤ 23 := by
  unfold dStr
  rw [Str.length_append]
  have h1 := num_len hv hv2
  have h2 : (Txt.mul (Str.ofString "0") zeros).length ≤ 3 := by
    have hz4 : zeros = 0 ∨ zeros = 1 ∨ zeros = 2 ∨ zeros = 3 := by omega
    rcases hz4 with rfl | rfl | rfl | rfl <;> decide +kernel
  omega
theorem d4 (w : World) (m : Str → Option Value) (L' Na Fa Va : Addr) (nms : List (Str × Tok)) (f0 f1 f2 f3 form week more zone minutes cas : Int) (nn nf n' : Nat) (month clock zeros v0 v1 v2 v3 v4 v5 white : Int) (cz e0 e1 e2 e3 c0 c1 c2 c4 c5 c6 c7 c8 c9 b4 b5 b6 b7 b8 b9 : Tok) (o1 o2 o3 : Obj) (v0b v0c : Option Value) (news : List (Addr × Obj)) (hw : 0 ≤ week) (hw2 : week < 11) (hwh : 0 ≤ white) (hwh2 : white < 8) (hmo : 0 ≤ more) (hmo2 : more < 3) (hfo : 0 ≤ form) (hfo2 : form < 6) (hzo : 0 ≤ zone) (hzo2 : zone < 5) (hmi : 0 ≤ minutes) (hmi2 : minutes < 100) (hca : 0 ≤ cas) (hca2 : cas < 4) (hc2 : o2.data = .cell v0b) (hc3 : o3.data = .cell v0c)
  (h2 : m (Str.ofString "week") = some (.int week c0)) (h8 : m (Str.ofString "white") = some (.int white c4)) (h9 : m (Str.ofString "more") = some (.int more c5)) (h3 : m (Str.ofString "faults") = some (.ref Fa)) (h4 : m (Str.ofString "values") = some (.ref Va)) (h5 : m (Str.ofString "month") = some (.int month c1)) (h6 : m (Str.ofString "clock") = some (.int clock c2)) (h10 : m (Str.ofString "form") = some (.int form c6)) (h11 : m (Str.ofString "zone") = some (.int zone c7)) (h12 : m (Str.ofString "minutes") = some (.int minutes c8)) (h13 : m (Str.ofString "case") = some (.int cas c9))
  (h14 : m (Str.ofString "names") = some (.ref Na))  (hm : 0 ≤ month) (hm2 : month < 24) (hcl : 0 ≤ clock) (hcl2 : clock < 8) (hv : 0 ≤ v1) (hv2 : v1 < 100000000000000000000) (hv5 : 0 ≤ v5) (hv52 : v5 < 100000000000000000000)
  (hf : ∀ f ∈ [f0, f1, f2, f3], 0 ≤ f ∧ f < 12) (hnm : nms.map (·.1) = nameTab) (hv0 : 0 ≤ v0) (hv02 : v0 < 100000000000000000000) (hv3 : 0 ≤ v3) (hv32 : v3 < 100000000000000000000) (hv4 : 0 ≤ v4) (hv42 : v4 < 100000000000000000000) (hvh : 0 ≤ v2) (hvh2 : v2 < 100000000000000000000) (hz : 0 ≤ zeros) (hz2 : zeros < 4) (hc1 : o1.data = .cell (some (.int zeros cz)))
  (hnl : ∀ p ∈ news, p.1 < L') (a2 : L' + 3 < Va) (a9 : L' + 3 < Na) (a10 : L' + 3 < Fa)
   :
    RunsX w 64 L' 4 m ((Na, W.listOf (strValues nms).toArray nn) :: (Fa, W.listOf #[.int f0 e0, .int f1 e1, .int f2 e2, .int f3 e3] nf) :: (Va, W.listOf #[.int v0 b4, .int v1 b5, .int v2 b6, .int v3 b7, .int v4 b8, .int v5 b9] n') :: (L' + 1, o1) :: (L' + 2, o2) :: (L' + 3, o3) :: news) 3
      (DateR (txtOf white (wkW week (moreW more (zTxt zone v5 minutes cas (goodOf f0 f1 f2 f3 && decide (form < 4))).toList (wordsOf (ordTab.getD form.toNat []) (partOf f0 (dStr zeros v0) (sp0 (dStr zeros v0))) (partOf f1 (caseOf (nameTab.getD month.toNat Str.empty) cas) (sp1 month)) (partOf f2 (dStr zeros v1) (sp2 (dStr zeros v1))) (partOf f3 (momOf (dStr zeros v2) (dStr zeros v3) (dStr zeros v4) (markOf clock form) clock) (sp3 (dStr zeros v2) (markOf clock form))) (zTxt zone v5 minutes cas (goodOf f0 f1 f2 f3 && decide (form < 4))).toList)))) (dueOf (goodOf f0 f1 f2 f3) month clock (zOff zone v5 minutes) v0 v1 v2 v3 v4) news) := by
  ((k_dflt (refine' RunsX.intro (cls := [(Str.ofString "zoned", _ + 3), (Str.ofString "parts", _ + 2), (Str.ofString "zeros", _ + 1)]) ?ho ?hb ?hc ?_; (case ho => k_is); (case hb => rfl); (case hc => rfl))); intro _ _ _ _ _ _ _ _ _ _ _ _ _ _ _ _ _ _ _ _ _ _ _ _ _ _)
  intro hret
  refine execs_step ?_
  walk1
  k_dflt (refine LCg.ListComp_U (F₀ := by k_asm) (by with_unfolding_all rfl) (by decide) (by rfl) (by decide) (by rfl) ?_)
  iterate 8 walk1
  refine LCg.CompSrc.ledger (by rfl) (by k_asm) (by k_asm) (.head _) (by show 5 ≤ sizeLine; decide) ?_
  intro gg
  refine comp_ind [.int v0 b4, .int v1 b5, .int v2 b6, .int v3 b7, .int v4 b8] (fun v y => ∃ n t t', v = .int n t ∧ y = .str (dStr zeros n) t') ?_ ?_
  · intro v hvm ys I oI C oC D m₂ h tk E' hC hk F N off ne
    obtain ⟨n, t, rfl, hn0, hn1⟩ : ∃ n t, v = .int n t ∧ 0 ≤ n ∧ n < 100000000000000000000 := by
      simp only [List.mem_cons, List.not_mem_nil, or_false] at hvm
      rcases hvm with rfl | rfl | rfl | rfl | rfl
      · exact ⟨_, _, rfl, hv0, hv02⟩
      · exact ⟨_, _, rfl, hv, hv2⟩
      · exact ⟨_, _, rfl, hvh, hvh2⟩
      · exact ⟨_, _, rfl, hv3, hv32⟩
      · exact ⟨_, _, rfl, hv4, hv42⟩
    clear hvm
    k_steps
    refine CompEnd.intro (by k_asm) (by k_asm) _ (fun p hp => hp) off (.inr ⟨_, .head _, rfl, _, rfl⟩) ⟨rfl, n, t, _, rfl, rfl⟩
  · intro ys hys
    obtain ⟨t0, t1, t2, t3, t4, rfl⟩ : ∃ t0 t1 t2 t3 t4, ys = [.str (dStr zeros v0) t0, .str (dStr zeros v1) t1, .str (dStr zeros v2) t2, .str (dStr zeros v3) t3, .str (dStr zeros v4) t4] := by
      cases hys with | cons g0 hys => ?_
      cases hys with | cons g1 hys => ?_
      cases hys with | cons g2 hys => ?_
      cases hys with | cons g3 hys => ?_
      cases hys with | cons g4 hys => ?_
      cases hys
      obtain ⟨_, _, t0, e0', rfl⟩ := g0
      obtain ⟨_, _, t1, e1', rfl⟩ := g1
      obtain ⟨_, _, t2, e2', rfl⟩ := g2
      obtain ⟨_, _, t3, e3', rfl⟩ := g3
      obtain ⟨_, _, t4, e4', rfl⟩ := g4
      cases e0'
      cases e1'
      cases e2'
      cases e3'
      cases e4'
      exact ⟨t0, t1, t2, t3, t4, rfl⟩
    intro D h tk F N o1
    have R0 := dStr_len hv0 hv02 hz hz2
    have R1 := dStr_len hv hv2 hz hz2
    have R2 := dStr_len hvh hvh2 hz hz2
    have R3 := dStr_len hv3 hv32 hz hz2
    have R4 := dStr_len hv4 hv42 hz hz2
    generalize dStr zeros v0 = day at *
    generalize dStr zeros v1 = year at *
    generalize dStr zeros v2 = hour at *
    generalize dStr zeros v3 = minute at *
    generalize dStr zeros v4 = second at *
    k_steps
    refine Hold.mk ?_
    dsimp only
    rename Fr _ _ _ _ => F9
    rename News _ _ _ _ => N9
    have N8 := cb_drop N9 (news := ((Na, W.listOf (strValues nms).toArray nn) :: (Fa, W.listOf #[.int f0 e0, .int f1 e1, .int f2 e2, .int f3 e3] nf) :: (Va, W.listOf #[.int v0 b4, .int v1 b5, .int v2 b6, .int v3 b7, .int v4 b8, .int v5 b9] n') :: (L' + 2, o2) :: (L' + 3, o3) :: news)) (fun p hp => by
      refine .tail _ (.tail _ ?_)
      rcases List.mem_cons.mp hp with rfl | hp
      · exact .head _
      rcases List.mem_cons.mp hp with rfl | hp
      · exact .tail _ (.head _)
      rcases List.mem_cons.mp hp with rfl | hp
      · exact .tail _ (.tail _ (.head _))
      · (iterate 4 refine .tail _ ?_); exact hp)
    clear N9
    refine @RunsX.use w 64 L' 5 _ _ _ _ _ _ _ _ _ _ _ _ _ _ _ _ _ _ _ _ _ _ _ _ _ _ _ _ _ _ _ _ _ _ _ _ _ _ _ F9 N8 (by assumption) (by assumption) (by assumption) (by assumption) (by assumption) (by assumption) (by k_is) (by rfl) (by rfl) (d5 w _ L' Na Fa Va nms day year hour minute second f0 f1 f2 f3 form week more zone minutes cas nn nf n' month clock v0 v1 v2 v3 v4 v5 white t0 t1 t3 t4 t2 e0 e1 e2 e3 c0 c1 c2 c4 c5 c6 c7 c8 c9 b4 b5 b6 b7 b8 b9 o2 o3 v0b v0c news hw hw2 hwh hwh2 hmo hmo2 hfo hfo2 hzo hzo2 hmi hmi2 hca hca2 hc2 hc3 h2 h8 h9 h3 h4 h5 h6 h10 h11 h12 h13 h14 rfl rfl rfl rfl rfl hm hm2 hcl hcl2 hv hv2 hv5 hv52 hf hnm hnl a2 a9 a10 R0 R1 R2 R3 R4) ?_
    exact hret
end
section
theorem reset34 : True := by
  k_with_none
  w_top off
  trivial
set_option maxRecDepth 100000
set_option maxHeartbeats 8000000
theorem d3 (w : World) (m : Str → Option Value) (L' Fa Va : Addr) (f0 f1 f2 f3 form week more zone minutes cas : Int) (nf n' : Nat) (month clock zeros v0 v1 v2 v3 v4 v5 white : Int) (cz e0 e1 e2 e3 c0 c1 c2 c4 c5 c6 c7 c8 c9 b4 b5 b6 b7 b8 b9 : Tok) (o1 o2 o3 : Obj) (v0b v0c : Option Value) (news : List (Addr × Obj)) (hw : 0 ≤ week) (hw2 : week < 11) (hwh : 0 ≤ white) (hwh2 : white < 8) (hmo : 0 ≤ more) (hmo2 : more < 3) (hfo : 0 ≤ form) (hfo2 : form < 6) (hzo : 0 ≤ zone) (hzo2 : zone < 5) (hmi : 0 ≤ minutes) (hmi2 : minutes < 100) (hca : 0 ≤ cas) (hca2 : cas < 4) (hc2 : o2.data = .cell v0b) (hc3 : o3.data = .cell v0c)
  (h2 : m (Str.ofString "week") = some (.int week c0)) (h8 : m (Str.ofString "white") = some (.int white c4)) (h9 : m (Str.ofString "more") = some (.int more c5)) (h3 : m (Str.ofString "faults") = some (.ref Fa)) (h4 : m (Str.ofString "values") = some (.ref Va)) (h5 : m (Str.ofString "month") = some (.int month c1)) (h6 : m (Str.ofString "clock") = some (.int clock c2)) (h10 : m (Str.ofString "form") = some (.int form c6)) (h11 : m (Str.ofString "zone") = some (.int zone c7)) (h12 : m (Str.ofString "minutes") = some (.int minutes c8)) (h13 : m (Str.ofString "case") = some (.int cas c9))
   (hm : 0 ≤ month) (hm2 : month < 24) (hcl : 0 ≤ clock) (hcl2 : clock < 8) (hv : 0 ≤ v1) (hv2 : v1 < 100000000000000000000) (hv5 : 0 ≤ v5) (hv52 : v5 < 100000000000000000000)
  (hf : ∀ f ∈ [f0, f1, f2, f3], 0 ≤ f ∧ f < 12)  (hv0 : 0 ≤ v0) (hv02 : v0 < 100000000000000000000) (hv3 : 0 ≤ v3) (hv32 : v3 < 100000000000000000000) (hv4 : 0 ≤ v4) (hv42 : v4 < 100000000000000000000) (hvh : 0 ≤ v2) (hvh2 : v2 < 100000000000000000000) (hz : 0 ≤ zeros) (hz2 : zeros < 4) (hc1 : o1.data = .cell (some (.int zeros cz)))
  (hnl : ∀ p ∈ news, p.1 < L') (a2 : L' + 3 < Va) (a10 : L' + 3 < Fa)
   :
    RunsX w 64 L' 3 m ((Fa, W.listOf #[.int f0 e0, .int f1 e1, .int f2 e2, .int f3 e3] nf) :: (Va, W.listOf #[.int v0 b4, .int v1 b5, .int v2 b6, .int v3 b7, .int v4 b8, .int v5 b9] n') :: (L' + 1, o1) :: (L' + 2, o2) :: (L' + 3, o3) :: news) 3
      (DateR (txtOf white (wkW week (moreW more (zTxt zone v5 minutes cas (goodOf f0 f1 f2 f3 && decide (form < 4))).toList (wordsOf (ordTab.getD form.toNat []) (partOf f0 (dStr zeros v0) (sp0 (dStr zeros v0))) (partOf f1 (caseOf (nameTab.getD month.toNat Str.empty) cas) (sp1 month)) (partOf f2 (dStr zeros v1) (sp2 (dStr zeros v1))) (partOf f3 (momOf (dStr zeros v2) (dStr zeros v3) (dStr zeros v4) (markOf clock form) clock) (sp3 (dStr zeros v2) (markOf clock form))) (zTxt zone v5 minutes cas (goodOf f0 f1 f2 f3 && decide (form < 4))).toList)))) (dueOf (goodOf f0 f1 f2 f3) month clock (zOff zone v5 minutes) v0 v1 v2 v3 v4) news) := by
  ((k_dflt (refine' RunsX.intro (cls := [(Str.ofString "zoned", _ + 3), (Str.ofString "parts", _ + 2), (Str.ofString "zeros", _ + 1)]) ?ho ?hb ?hc ?_; (case ho => k_is); (case hb => rfl); (case hc => rfl))); intro _ _ _ _ _ _ _ _ _ _ _ _ _ _ _ _ _ _ _ _ _ _ _ _ _ _)
  intro hret
  refine execs_step ?_
  k_steps
  rename_i Na _ gN _ F9 N9
  refine Hold.mk ?_
  dsimp only
  have a9 : L' + 3 < Na := gN.2.2.2.2.1
  have H := fun (u0 u1 u2 u3 u4 u5 u6 u7 u8 u9 u10 u11 u12 u13 u14 u15 u16 u17 u18 u19 u20 u21 u22 u23 : Tok) => d4 w (fun y => if y = Str.ofString "names" then some (Value.ref Na) else m y) L' Na Fa Va [(Str.ofString "Jan", u0), (Str.ofString "Feb", u1), (Str.ofString "Mar", u2), (Str.ofString "Apr", u3), (Str.ofString "May", u4), (Str.ofString "Jun", u5), (Str.ofString "Jul", u6), (Str.ofString "Aug", u7), (Str.ofString "Sep", u8), (Str.ofString "Oct", u9), (Str.ofString "Nov", u10), (Str.ofString "Dec", u11), (Str.ofString "January", u12), (Str.ofString "February", u13), (Str.ofString "March", u14), (Str.ofString "April", u15), (Str.ofString "May", u16), (Str.ofString "June", u17), (Str.ofString "July", u18), (Str.ofString "August", u19), (Str.ofString "September", u20), (Str.ofString "October", u21), (Str.ofString "November", u22), (Str.ofString "December", u23)] f0 f1 f2 f3 form week more zone minutes cas 0 nf n' month clock zeros v0 v1 v2 v3 v4 v5 white cz e0 e1 e2 e3 c0 c1 c2 c4 c5 c6 c7 c8 c9 b4 b5 b6 b7 b8 b9 o1 o2 o3 v0b v0c news hw hw2 hwh hwh2 hmo hmo2 hfo hfo2 hzo hzo2 hmi hmi2 hca hca2 hc2 hc3 h2 h8 h9 h3 h4 h5 h6 h10 h11 h12 h13 rfl hm hm2 hcl hcl2 hv hv2 hv5 hv52 hf rfl hv0 hv02 hv3 hv32 hv4 hv42 hvh hvh2 hz hz2 hc1 hnl a2 a9 a10
  refine @RunsX.use w 64 L' 4 _ _ _ _ _ _ _ _ _ _ _ _ _ _ _ _ _ _ _ _ _ _ _ _ _ _ _ _ _ _ _ _ _ _ _ _ _ _ _ F9 N9 (by assumption) (by assumption) (by assumption) (by assumption) (by assumption) (by assumption) (by k_is) (by rfl) (by rfl) (H _ _ _ _ _ _ _ _ _ _ _ _ _ _ _ _ _ _ _ _ _ _ _ _ ) ?_
  exact hret
end
section
theorem reset35 : True := by
  k_with_none
  w_top off
  trivial
set_option maxRecDepth 100000
set_option maxHeartbeats 8000000
theorem d2 (w : World) (m : Str → Option Value) (L' Dr Fa Va : Addr) (f0 f1 f2 f3 form week more zone minutes cas : Int) (nd nf n' : Nat) (month clock zeros v0 v1 v2 v3 v4 v5 white : Int) (cz e0 e1 e2 e3 c0 c1 c2 c4 c5 c6 c7 c8 c9 b4 b5 b6 b7 b8 b9 : Tok) (o1 o2 o3 : Obj) (v0a v0b v0c : Option Value) (news : List (Addr × Obj)) (hw : 0 ≤ week) (hw2 : week < 11) (hwh : 0 ≤ white) (hwh2 : white < 8) (hmo : 0 ≤ more) (hmo2 : more < 3) (hfo : 0 ≤ form) (hfo2 : form < 6) (hzo : 0 ≤ zone) (hzo2 : zone < 5) (hmi : 0 ≤ minutes) (hmi2 : minutes < 100) (hca : 0 ≤ cas) (hca2 : cas < 4) (hc2 : o2.data = .cell v0b) (hc3 : o3.data = .cell v0c)
  (h3 : m (Str.ofString "faults") = some (.ref Fa)) (h4 : m (Str.ofString "values") = some (.ref Va)) (h7 : m (Str.ofString "drawn") = some (.ref Dr)) (hm : 0 ≤ month) (hm2 : month < 24) (hcl : 0 ≤ clock) (hcl2 : clock < 8) (hv : 0 ≤ v1) (hv2 : v1 < 100000000000000000000) (hv5 : 0 ≤ v5) (hv52 : v5 < 100000000000000000000)
  (hf : ∀ f ∈ [f0, f1, f2, f3], 0 ≤ f ∧ f < 12)  (hv0 : 0 ≤ v0) (hv02 : v0 < 100000000000000000000) (hv3 : 0 ≤ v3) (hv32 : v3 < 100000000000000000000) (hv4 : 0 ≤ v4) (hv42 : v4 < 100000000000000000000) (hvh : 0 ≤ v2) (hvh2 : v2 < 100000000000000000000) (hz : 0 ≤ zeros) (hz2 : zeros < 4) (hc1 : o1.data = .cell v0a) (a1 : L' + 3 < Dr)
  (hnl : ∀ p ∈ news, p.1 < L') (a2 : L' + 3 < Va) (a10 : L' + 3 < Fa)
   :
    RunsX w 64 L' 2 m ((Va, W.listOf #[.int v0 b4, .int v1 b5, .int v2 b6, .int v3 b7, .int v4 b8, .int v5 b9] n') :: (Fa, W.listOf #[.int f0 e0, .int f1 e1, .int f2 e2, .int f3 e3] nf) :: (Dr, W.listOf #[.int f0 e0, .int f1 e1, .int f2 e2, .int f3 e3, .int form c6, .int week c0, .int month c1, .int clock c2, .int cas c9, .int zeros cz, .int zone c7, .int minutes c8, .int more c5, .int white c4, .int v0 b4, .int v1 b5, .int v2 b6, .int v3 b7, .int v4 b8, .int v5 b9] nd) :: (L' + 1, o1) :: (L' + 2, o2) :: (L' + 3, o3) :: news) 3
      (DateR (txtOf white (wkW week (moreW more (zTxt zone v5 minutes cas (goodOf f0 f1 f2 f3 && decide (form < 4))).toList (wordsOf (ordTab.getD form.toNat []) (partOf f0 (dStr zeros v0) (sp0 (dStr zeros v0))) (partOf f1 (caseOf (nameTab.getD month.toNat Str.empty) cas) (sp1 month)) (partOf f2 (dStr zeros v1) (sp2 (dStr zeros v1))) (partOf f3 (momOf (dStr zeros v2) (dStr zeros v3) (dStr zeros v4) (markOf clock form) clock) (sp3 (dStr zeros v2) (markOf clock form))) (zTxt zone v5 minutes cas (goodOf f0 f1 f2 f3 && decide (form < 4))).toList)))) (dueOf (goodOf f0 f1 f2 f3) month clock (zOff zone v5 minutes) v0 v1 v2 v3 v4) news) := by
  ((k_dflt (refine' RunsX.intro (cls := [(Str.ofString "zoned", _ + 3), (Str.ofString "parts", _ + 2), (Str.ofString "zeros", _ + 1)]) ?ho ?hb ?hc ?_; (case ho => k_is); (case hb => rfl); (case hc => rfl))); intro _ _ _ _ _ _ _ _ _ _ _ _ _ _ _ _ _ _ _ _ _ _ _ _ _ _)
  intro hret
  refine execs_step ?_
  k_steps
  rename_i g5 _ _ _ _ _ _ F1 N1
  have cl1 : ∀ {b : Addr}, L' + 3 < b → b ≠ L' + 1 := fun h => Nat.ne_of_gt (Nat.lt_trans (Nat.lt_trans (Nat.lt_succ_self (L' + 1)) (Nat.lt_succ_self (L' + 2))) h)
  have hpost : ∀ p ∈ (L' + 2, o2) :: (L' + 3, o3) :: news, p.1 ≠ L' + 1 := by
    intro p hp
    rcases List.mem_cons.mp hp with rfl | hp
    · exact Nat.ne_of_gt (Nat.lt_succ_self (L' + 1))
    rcases List.mem_cons.mp hp with rfl | hp
    · exact Nat.ne_of_gt (Nat.lt_trans (Nat.lt_succ_self (L' + 1)) (Nat.lt_succ_self (L' + 2)))
    · exact Nat.ne_of_lt (Nat.lt_of_lt_of_le (hnl p hp) (Nat.le_add_right _ _))
  refine storeX_C (c := L' + 1) F1 N1 rfl (.tail (cl1 g5.2.2.2.2.2.1) (.tail (cl1 a2) (.tail (cl1 a10) (.tail (cl1 a1) (.head hpost))))) hc1 ?_
  intro h7' o7 F7 N7 hc7
  k_steps
  refine Hold.mk ?_
  dsimp only
  rename Fr _ _ _ _ => F9
  rename News _ _ _ _ => N9
  have N8 := cb_drop N9 (news := (Fa, W.listOf #[.int f0 e0, .int f1 e1, .int f2 e2, .int f3 e3] nf) :: (Va, W.listOf #[.int v0 b4, .int v1 b5, .int v2 b6, .int v3 b7, .int v4 b8, .int v5 b9] n') :: (L' + 1, o7) :: (L' + 2, o2) :: (L' + 3, o3) :: news) (fun p hp => by
    refine .tail _ ?_
    rcases List.mem_cons.mp hp with rfl | hp
    · exact .tail _ (.head _)
    rcases List.mem_cons.mp hp with rfl | hp
    · exact .head _
    · (iterate 3 refine .tail _ ?_); exact hp)
  clear N9
  refine @RunsX.use w 64 L' 3 _ _ _ _ _ _ _ _ _ _ _ _ _ _ _ _ _ _ _ _ _ _ _ _ _ _ _ _ _ _ _ _ _ _ _ _ _ _ _ F9 N8 (by assumption) (by assumption) (by assumption) (by assumption) (by assumption) (by assumption) (by k_is) (by rfl) (by rfl) (d3 w _ L' Fa Va f0 f1 f2 f3 form week more zone minutes cas nf n' month clock zeros v0 v1 v2 v3 v4 v5 white cz e0 e1 e2 e3 c0 c1 c2 c4 c5 c6 c7 c8 c9 b4 b5 b6 b7 b8 b9 o7 o2 o3 v0b v0c news hw hw2 hwh hwh2 hmo hmo2 hfo hfo2 hzo hzo2 hmi hmi2 hca hca2 hc2 hc3 rfl rfl rfl h3 h4 rfl rfl rfl rfl rfl rfl hm hm2 hcl hcl2 hv hv2 hv5 hv52 hf hv0 hv02 hv3 hv32 hv4 hv42 hvh hvh2 hz hz2 hc7 hnl a2 a10) ?_
  exact hret
end
section
theorem reset36 : True := by
  k_with_none
  w_top off
  trivial
set_option maxRecDepth 100000
set_option maxHeartbeats 8000000
theorem d1 (w : World) (m : Str → Option Value) (L' Dr : Addr) (f0 f1 f2 f3 form week more zone minutes cas : Int) (nd : Nat) (month clock zeros v0 v1 v2 v3 v4 v5 white : Int) (cz e0 e1 e2 e3 c0 c1 c2 c4 c5 c6 c7 c8 c9 b4 b5 b6 b7 b8 b9 : Tok) (o1 o2 o3 : Obj) (v0a v0b v0c : Option Value) (news : List (Addr × Obj)) (hw : 0 ≤ week) (hw2 : week < 11) (hwh : 0 ≤ white) (hwh2 : white < 8) (hmo : 0 ≤ more) (hmo2 : more < 3) (hfo : 0 ≤ form) (hfo2 : form < 6) (hzo : 0 ≤ zone) (hzo2 : zone < 5) (hmi : 0 ≤ minutes) (hmi2 : minutes < 100) (hca : 0 ≤ cas) (hca2 : cas < 4) (hc2 : o2.data = .cell v0b) (hc3 : o3.data = .cell v0c)
  (h7 : m (Str.ofString "drawn") = some (.ref Dr)) (hm : 0 ≤ month) (hm2 : month < 24) (hcl : 0 ≤ clock) (hcl2 : clock < 8) (hv : 0 ≤ v1) (hv2 : v1 < 100000000000000000000) (hv5 : 0 ≤ v5) (hv52 : v5 < 100000000000000000000)
  (hf : ∀ f ∈ [f0, f1, f2, f3], 0 ≤ f ∧ f < 12)  (hv0 : 0 ≤ v0) (hv02 : v0 < 100000000000000000000) (hv3 : 0 ≤ v3) (hv32 : v3 < 100000000000000000000) (hv4 : 0 ≤ v4) (hv42 : v4 < 100000000000000000000) (hvh : 0 ≤ v2) (hvh2 : v2 < 100000000000000000000) (hz : 0 ≤ zeros) (hz2 : zeros < 4) (hc1 : o1.data = .cell v0a) (a1 : L' + 3 < Dr)
  (hnl : ∀ p ∈ news, p.1 < L') :
    RunsX w 64 L' 1 m ((Dr, W.listOf #[.int f0 e0, .int f1 e1, .int f2 e2, .int f3 e3, .int form c6, .int week c0, .int month c1, .int clock c2, .int cas c9, .int zeros cz, .int zone c7, .int minutes c8, .int more c5, .int white c4, .int v0 b4, .int v1 b5, .int v2 b6, .int v3 b7, .int v4 b8, .int v5 b9] nd) :: (L' + 1, o1) :: (L' + 2, o2) :: (L' + 3, o3) :: news) 3
      (DateR (txtOf white (wkW week (moreW more (zTxt zone v5 minutes cas (goodOf f0 f1 f2 f3 && decide (form < 4))).toList (wordsOf (ordTab.getD form.toNat []) (partOf f0 (dStr zeros v0) (sp0 (dStr zeros v0))) (partOf f1 (caseOf (nameTab.getD month.toNat Str.empty) cas) (sp1 month)) (partOf f2 (dStr zeros v1) (sp2 (dStr zeros v1))) (partOf f3 (momOf (dStr zeros v2) (dStr zeros v3) (dStr zeros v4) (markOf clock form) clock) (sp3 (dStr zeros v2) (markOf clock form))) (zTxt zone v5 minutes cas (goodOf f0 f1 f2 f3 && decide (form < 4))).toList)))) (dueOf (goodOf f0 f1 f2 f3) month clock (zOff zone v5 minutes) v0 v1 v2 v3 v4) news) := by
  ((k_dflt (refine' RunsX.intro (cls := [(Str.ofString "zoned", _ + 3), (Str.ofString "parts", _ + 2), (Str.ofString "zeros", _ + 1)]) ?ho ?hb ?hc ?_; (case ho => k_is); (case hb => rfl); (case hc => rfl))); intro _ _ _ _ _ _ _ _ _ _ _ _ _ _ _ _ _ _ _ _ _ _ _ _ _ _)
  intro hret
  refine execs_step ?_
  k_steps
  rename_i Fa _ g1 Va _ g2 Tu _ g3 _ _ _ F9 N9
  refine Hold.mk ?_
  dsimp only
  have N8 := cb_drop N9 (fun p hp => .tail _ hp)
  clear N9
  refine @RunsX.use w 64 L' 2 _ _ _ _ _ _ _ _ _ _ _ _ _ _ _ _ _ _ _ _ _ _ _ _ _ _ _ _ _ _ _ _ _ _ _ _ _ _ _ F9 N8 (by assumption) (by assumption) (by assumption) (by assumption) (by assumption) (by assumption) (by k_is) (by rfl) (by rfl) (d2 w _ L' Dr Fa Va f0 f1 f2 f3 form week more zone minutes cas nd 0 0 month clock zeros v0 v1 v2 v3 v4 v5 white cz e0 e1 e2 e3 c0 c1 c2 c4 c5 c6 c7 c8 c9 b4 b5 b6 b7 b8 b9 o1 o2 o3 v0a v0b v0c news hw hw2 hwh hwh2 hmo hmo2 hfo hfo2 hzo hzo2 hmi hmi2 hca hca2 hc2 hc3 rfl rfl h7 hm hm2 hcl hcl2 hv hv2 hv5 hv52 hf hv0 hv02 hv3 hv32 hv4 hv42 hvh hvh2 hz hz2 hc1 a1 hnl g2.2.2.2.2.1 g1.2.2.2.1) ?_
  exact hret
end
section
theorem reset37 : True := by
  k_with_none
  w_top off
  trivial
set_option maxRecDepth 100000
set_option maxHeartbeats 8000000
/-- what a number is cut into -/
structure Draw where
  f0 : Int
  f1 : Int
  f2 : Int
  f3 : Int
  form : Int
  week : Int
  month : Int
  clock : Int
  cas : Int
  zeros : Int
  zone : Int
  minutes : Int
  more : Int
  white : Int
  v0 : Int
  v1 : Int
  v2 : Int
  v3 : Int
  v4 : Int
  v5 : Int
structure Draw.Ok (d : Draw) : Prop where
  f0a : 0 ≤ d.f0
  f0b : d.f0 < 12
  f1a : 0 ≤ d.f1
  f1b : d.f1 < 12
  f2a : 0 ≤ d.f2
  f2b : d.f2 < 12
  f3a : 0 ≤ d.f3
  f3b : d.f3 < 12
  forma : 0 ≤ d.form
  formb : d.form < 6
  weeka : 0 ≤ d.week
  weekb : d.week < 11
  montha : 0 ≤ d.month
  monthb : d.month < 24
  clocka : 0 ≤ d.clock
  clockb : d.clock < 8
  casa : 0 ≤ d.cas
  casb : d.cas < 4
  zerosa : 0 ≤ d.zeros
  zerosb : d.zeros < 4
  zonea : 0 ≤ d.zone
  zoneb : d.zone < 5
  minutesa : 0 ≤ d.minutes
  minutesb : d.minutes < 100
  morea : 0 ≤ d.more
  moreb : d.more < 3
  whitea : 0 ≤ d.white
  whiteb : d.white < 8
  v0a : 0 ≤ d.v0
  v0b : d.v0 < 100000000000000000000
  v1a : 0 ≤ d.v1
  v1b : d.v1 < 100000000000000000000
  v2a : 0 ≤ d.v2
  v2b : d.v2 < 100000000000000000000
  v3a : 0 ≤ d.v3
  v3b : d.v3 < 100000000000000000000
  v4a : 0 ≤ d.v4
  v4b : d.v4 < 100000000000000000000
  v5a : 0 ≤ d.v5
  v5b : d.v5 < 100000000000000000000
inductive Rng : List Int → List Int → Prop
  | nil : Rng [] []
  | cons {a z : Int} {r zs : List Int} : 0 ≤ a → a < z → Rng r zs → Rng (a :: r) (z :: zs)
theorem cutRow_rng : ∀ (zs : List Int) (n : Int), (∀ z ∈ zs, 0 < z) → Rng (cutRow n zs) zs
  | [], _, _ => .nil
  | z :: zs, n, h => .cons (Int.emod_nonneg _ (by have := h z (.head _); omega)) (Int.emod_lt_of_pos _ (h z (.head _))) (cutRow_rng zs (n / z) fun y hy => h y (.tail _ hy))
noncomputable def dWords (d : Draw) : List Str := wkW d.week (moreW d.more (zTxt d.zone d.v5 d.minutes d.cas (goodOf d.f0 d.f1 d.f2 d.f3 && decide (d.form < 4))).toList (wordsOf (ordTab.getD d.form.toNat []) (partOf d.f0 (dStr d.zeros d.v0) (sp0 (dStr d.zeros d.v0))) (partOf d.f1 (caseOf (nameTab.getD d.month.toNat Str.empty) d.cas) (sp1 d.month)) (partOf d.f2 (dStr d.zeros d.v1) (sp2 (dStr d.zeros d.v1))) (partOf d.f3 (momOf (dStr d.zeros d.v2) (dStr d.zeros d.v3) (dStr d.zeros d.v4) (markOf d.clock d.form) d.clock) (sp3 (dStr d.zeros d.v2) (markOf d.clock d.form))) (zTxt d.zone d.v5 d.minutes d.cas (goodOf d.f0 d.f1 d.f2 d.f3 && decide (d.form < 4))).toList))
noncomputable def dTxt (d : Draw) : Str := txtOf d.white (dWords d)
noncomputable def dDue (d : Draw) : Option PRes := dueOf (goodOf d.f0 d.f1 d.f2 d.f3) d.month d.clock (zOff d.zone d.v5 d.minutes) d.v0 d.v1 d.v2 d.v3 d.v4
noncomputable def szs : List Int := [12, 12, 12, 12, 6, 11, 24, 8, 4, 4, 5, 100, 3, 8, 100000000000000000000, 100000000000000000000, 100000000000000000000, 100000000000000000000, 100000000000000000000, 100000000000000000000]
noncomputable def DrawR (news : List (Addr × Obj)) (v : Value) (nw : List (Addr × Obj)) : Prop := ∃ d : Draw, d.Ok ∧ DateR (dTxt d) (dDue d) news v nw
theorem rng_cons {q : List (Int × Tok)} {z : Int} {zs : List Int} (h : Rng (q.map (·.1)) (z :: zs)) : ∃ a t q', q = (a, t) :: q' ∧ 0 ≤ a ∧ a < z ∧ Rng (q'.map (·.1)) zs := by
  rcases q with _ | ⟨⟨a, t⟩, q'⟩
  · cases h
  · cases h with | cons h1 h2 h3 => exact ⟨a, t, q', rfl, h1, h2, h3⟩
theorem rng_nil {q : List (Int × Tok)} (h : Rng (q.map (·.1)) []) : q = [] := by
  rcases q with _ | ⟨p, q'⟩
  · rfl
  · cases h
noncomputable def DrawQ (q : List (Int × Tok)) : Prop := ∃ d : Draw, d.Ok ∧ ∃ t : Nat → Tok, q = [(d.f0, t 0), (d.f1, t 1), (d.f2, t 2), (d.f3, t 3), (d.form, t 4), (d.week, t 5), (d.month, t 6), (d.clock, t 7), (d.cas, t 8), (d.zeros, t 9), (d.zone, t 10), (d.minutes, t 11), (d.more, t 12), (d.white, t 13), (d.v0, t 14), (d.v1, t 15), (d.v2, t 16), (d.v3, t 17), (d.v4, t 18), (d.v5, t 19)]
theorem draw_of {q : List (Int × Tok)} (h0 : Rng (q.map (·.1)) szs) : DrawQ q := by
  obtain ⟨a0, u0, q0, rfl, x0, y0, h1⟩ := rng_cons h0
  obtain ⟨a1, u1, q1, rfl, x1, y1, h2⟩ := rng_cons h1
  obtain ⟨a2, u2, q2, rfl, x2, y2, h3⟩ := rng_cons h2
  obtain ⟨a3, u3, q3, rfl, x3, y3, h4⟩ := rng_cons h3
  obtain ⟨a4, u4, q4, rfl, x4, y4, h5⟩ := rng_cons h4
  obtain ⟨a5, u5, q5, rfl, x5, y5, h6⟩ := rng_cons h5
  obtain ⟨a6, u6, q6, rfl, x6, y6, h7⟩ := rng_cons h6
  obtain ⟨a7, u7, q7, rfl, x7, y7, h8⟩ := rng_cons h7
  obtain ⟨a8, u8, q8, rfl, x8, y8, h9⟩ := rng_cons h8
  obtain ⟨a9, u9, q9, rfl, x9, y9, h10⟩ := rng_cons h9
  obtain ⟨a10, u10, q10, rfl, x10, y10, h11⟩ := rng_cons h10
  obtain ⟨a11, u11, q11, rfl, x11, y11, h12⟩ := rng_cons h11
  obtain ⟨a12, u12, q12, rfl, x12, y12, h13⟩ := rng_cons h12
  obtain ⟨a13, u13, q13, rfl, x13, y13, h14⟩ := rng_cons h13
  obtain ⟨a14, u14, q14, rfl, x14, y14, h15⟩ := rng_cons h14
  obtain ⟨a15, u15, q15, rfl, x15, y15, h16⟩ := rng_cons h15
  obtain ⟨a16, u16, q16, rfl, x16, y16, h17⟩ := rng_cons h16
  obtain ⟨a17, u17, q17, rfl, x17, y17, h18⟩ := rng_cons h17
  obtain ⟨a18, u18, q18, rfl, x18, y18, h19⟩ := rng_cons h18
  obtain ⟨a19, u19, q19, rfl, x19, y19, h20⟩ := rng_cons h19
  obtain rfl := rng_nil h20
  exact ⟨⟨a0, a1, a2, a3, a4, a5, a6, a7, a8, a9, a10, a11, a12, a13, a14, a15, a16, a17, a18, a19⟩, ⟨x0, y0, x1, y1, x2, y2, x3, y3, x4, y4, x5, y5, x6, y6, x7, y7, x8, y8, x9, y9, x10, y10, x11, y11, x12, y12, x13, y13, x14, y14, x15, y15, x16, y16, x17, y17, x18, y18, x19, y19⟩, fun i => [u0, u1, u2, u3, u4, u5, u6, u7, u8, u9, u10, u11, u12, u13, u14, u15, u16, u17, u18, u19].getD i u0, rfl⟩
theorem hl20 (u0 u1 u2 u3 u4 u5 u6 u7 u8 u9 u10 u11 u12 u13 u14 u15 u16 u17 u18 u19 : Tok) : ∀ p ∈ [((12 : Int), u0), ((12 : Int), u1), ((12 : Int), u2), ((12 : Int), u3), ((6 : Int), u4), ((11 : Int), u5), ((24 : Int), u6), ((8 : Int), u7), ((4 : Int), u8), ((4 : Int), u9), ((5 : Int), u10), ((100 : Int), u11), ((3 : Int), u12), ((8 : Int), u13), ((100000000000000000000 : Int), u14), ((100000000000000000000 : Int), u15), ((100000000000000000000 : Int), u16), ((100000000000000000000 : Int), u17), ((100000000000000000000 : Int), u18), ((100000000000000000000 : Int), u19)], 0 < p.1 ∧ p.1 ≤ 100000000000000000000 := by
  intro p hp
  simp only [List.mem_cons, List.not_mem_nil, or_false] at hp
  rcases hp with rfl | rfl | rfl | rfl | rfl | rfl | rfl | rfl | rfl | rfl | rfl | rfl | rfl | rfl | rfl | rfl | rfl | rfl | rfl | rfl <;> simp
theorem d0 (w : World) (m : Str → Option Value) (L' : Addr) (number : Int) (tn : Tok) (o1 o2 o3 : Obj) (v0a v0b v0c : Option Value) (news : List (Addr × Obj)) (hn : 0 ≤ number) (hc1 : o1.data = .cell v0a) (hc2 : o2.data = .cell v0b) (hc3 : o3.data = .cell v0c)
  (h7 : m (Str.ofString "number") = some (.int number tn)) (hnl : ∀ p ∈ news, p.1 < L') :
    RunsX w 64 L' 0 m ((L' + 1, o1) :: (L' + 2, o2) :: (L' + 3, o3) :: news) 3 (DrawR news) := by
  ((k_dflt (refine' RunsX.intro (cls := [(Str.ofString "zoned", _ + 3), (Str.ofString "parts", _ + 2), (Str.ofString "zeros", _ + 1)]) ?ho ?hb ?hc ?_; (case ho => k_is); (case hb => rfl); (case hc => rfl))); intro _ _ _ _ _ _ _ _ _ _ _ _ _ _ _ _ _ _ _ _ _ _ _ _ _ _)
  intro hret
  refine execs_step ?_
  k_steps
  rename_i D _ F9 N9 g9
  have e20 : (10 ^ Int.toNat 20 : Int) = 100000000000000000000 := by decide +kernel
  rw [e20] at N9
  have N8 := cb_drop N9 (news := (D, W.listOf (iVals [(12, _), (12, _), (12, _), (12, _), (6, _), (11, _), (24, _), (8, _), (4, _), (4, _), (5, _), (100, _), (3, _), (8, _), (100000000000000000000, _), (100000000000000000000, _), (100000000000000000000, _), (100000000000000000000, _), (100000000000000000000, _), (100000000000000000000, _)]).toArray 0) :: (L' + 1, o1) :: (L' + 2, o2) :: (L' + 3, o3) :: news) (fun p hp => by
    rcases List.mem_cons.mp hp with rfl | hp
    · exact .head _
    · (iterate 7 refine .tail _ ?_); exact hp)
  clear N9
  obtain ⟨y1, y2, y3, y4, y5, y6, y7, y8, y9, y10⟩ := g9
  have hS : ∀ p ∈ (L' + 1, o1) :: (L' + 2, o2) :: (L' + 3, o3) :: news, p.1 < D := by
    exact all_cons y7 (all_cons y8 (all_cons y9 (allLt_mem _ y10)))
  refine Calls.use (k45 w number tn D 0 _ _ hn (hl20 _ _ _ _ _ _ _ _ _ _ _ _ _ _ _ _ _ _ _ _) (by simp) hS) F9 N8 (by assumption) (by assumption) (by assumption) (by rfl) (by omega) (by omega) ?_
  intro v nw h' tk' F' N' r
  obtain ⟨D2, k2, q, rfl, rfl, hq, lD, lN⟩ := r
  have hr : Rng (q.map (·.1)) szs := hq ▸ cutRow_rng szs number (by decide)
  obtain ⟨d, hd, t, rfl⟩ := draw_of hr
  k_steps
  rename Fr _ _ _ _ => F7
  rename News _ _ _ _ => N7
  refine Hold.mk ?_
  dsimp only
  have N6 := cb_drop N7 (news := (D2, W.listOf #[.int d.f0 (t 0), .int d.f1 (t 1), .int d.f2 (t 2), .int d.f3 (t 3), .int d.form (t 4), .int d.week (t 5), .int d.month (t 6), .int d.clock (t 7), .int d.cas (t 8), .int d.zeros (t 9), .int d.zone (t 10), .int d.minutes (t 11), .int d.more (t 12), .int d.white (t 13), .int d.v0 (t 14), .int d.v1 (t 15), .int d.v2 (t 16), .int d.v3 (t 17), .int d.v4 (t 18), .int d.v5 (t 19)] k2) :: (L' + 1, o1) :: (L' + 2, o2) :: (L' + 3, o3) :: news) (fun p hp => by
    rcases List.mem_cons.mp hp with rfl | hp
    · exact .head _
    · exact .tail _ (.tail _ hp))
  clear N7
  have hfs : ∀ f ∈ [d.f0, d.f1, d.f2, d.f3], 0 ≤ f ∧ f < 12 := by
    intro f hf
    simp only [List.mem_cons, List.not_mem_nil, or_false] at hf
    rcases hf with rfl | rfl | rfl | rfl
    · exact ⟨hd.f0a, hd.f0b⟩
    · exact ⟨hd.f1a, hd.f1b⟩
    · exact ⟨hd.f2a, hd.f2b⟩
    · exact ⟨hd.f3a, hd.f3b⟩
  have hret2 : ∀ v nw' m' h' tk', Fr _ L' h' m' → News _ L' h' nw' → DateR (dTxt d) (dDue d) news v nw' → _ := fun v nw' m' h' tk' a b c => hret v nw' m' h' tk' a b ⟨d, hd, c⟩
  refine @RunsX.use w 64 L' 1 _ _ _ _ _ _ _ _ _ _ _ _ _ _ _ _ _ _ _ _ _ _ _ _ _ _ _ _ _ _ _ _ _ _ _ _ _ _ _ F7 N6 (by assumption) (by assumption) (by assumption) (by assumption) (by assumption) (by assumption) (by k_is) (by rfl) (by rfl) (d1 w _ L' D2 d.f0 d.f1 d.f2 d.f3 d.form d.week d.more d.zone d.minutes d.cas k2 d.month d.clock d.zeros d.v0 d.v1 d.v2 d.v3 d.v4 d.v5 d.white (t 9) (t 0) (t 1) (t 2) (t 3) (t 5) (t 6) (t 7) (t 13) (t 12) (t 4) (t 10) (t 11) (t 8) (t 14) (t 15) (t 16) (t 17) (t 18) (t 19) o1 o2 o3 v0a v0b v0c news hd.weeka hd.weekb hd.whitea hd.whiteb hd.morea hd.moreb hd.forma hd.formb hd.zonea hd.zoneb hd.minutesa hd.minutesb hd.casa hd.casb hc2 hc3 rfl hd.montha hd.monthb hd.clocka hd.clockb hd.v1a hd.v1b hd.v5a hd.v5b hfs hd.v0a hd.v0b hd.v3a hd.v3b hd.v4a hd.v4b hd.v2a hd.v2b hd.zerosa hd.zerosb hc1 (Nat.lt_trans y9 lD) hnl) ?_
  exact hret2
end
section
set_option maxRecDepth 100000
set_option maxHeartbeats 8000000
theorem RunsX.less {w : World} {f L' : Addr} {k : Nat} {m : Str → Option Value} {nw nw2 : List (Addr × Obj)} {dn : Nat} {R : Value → List (Addr × Obj) → Prop} (sub : ∀ p ∈ nw2, p ∈ nw) (H : RunsX w f L' k m nw2 dn R) : RunsX w f L' k m nw dn R :=
  ⟨fun mean mg mb dp un gd cn cs a ccd cl outer base g L s Q E B F X N T hk hd1 hu hret => H.run mean mg mb dp un gd cn cs a ccd cl outer base g L s Q E B F X (fun p hp => N p (sub p hp)) T hk hd1 hu hret⟩
theorem CallsX.of {w : World} {f : Addr} {vs : List Value} {news : List (Addr × Obj)} {dn : Nat} {R : Value → List (Addr × Obj) → Prop} {binds : List (Str × Value)}
    {name qual : Str} {params : Arguments} {body : List Stmt} {scope : Scope} {dV kV doc pm cdv ct oc : Value} {an od : Option Addr} {osl : Array (Option Value)}
    (ho : (topK.heap_1 w.params).lookup f = some ⟨oc, od, .func (fnOf name qual params body scope dV kV doc pm an cdv ct), osl⟩) (hcd : codeIn (topK.heap_1 w.params) cdv qual = true)
    (hbind : ∀ s, BindsTo s (fnOf name qual params body scope dV kV doc pm an cdv ct) ⟨vs, []⟩ binds) (hkind : (binds.all fun y => scope.names.lookup y.1 == some .local || scope.names.lookup y.1 == some .cell) = true)
    (hnd : ((cellsFrom 0 scope.names []).map (·.1)).Nodup)
    (hco : scope.isCoroutine = false) (hgen : scope.isGenerator = false) (hk : scope.kind = .function)
    (H : ∀ L' cells, CellsAre (bindC (envOfC qual scope L' f cdv).kindOf binds fun _ => none) (cellsFrom (L' + 1) scope.names []) cells → (∀ p ∈ news, p.1 < L') → RunsX w f L' 0 (bindL (envOfC qual scope L' f cdv).kindOf binds fun _ => none) (cells ++ news) dn R) : CallsS w f vs news dn R := by
  refine ⟨?_⟩
  intro mean mg mb dp un gd cn cs a ccd cl outer A₀ base h₀ L m s Q E B F X N T hck hd1 hu hret
  refine wpAny_call ?_
  refine code_defC (env := envX cn cs L a ccd cl) B F X N T rfl rfl hck ho hcd (show dp < recursionLimit by omega) (hbind s) hkind hnd (fun g L' h₁ tk cells FG F' N' CA B' X' T' hl => ?_) hco hgen hk
  have h := (H L' cells CA hl).run mean mg mb dp un gd cn cs a ccd cl outer base g L { s with heap := h₁, toks := tk } (fun fl s' => LeaveK h₀ L m g (fun r s' => match r with | .ok (.ret v) => Q v s' | .ok _ => False | .error e => E e s') (match fl with | .ret v => v | _ => .none) s')
    (fun e s' => wpAny (model Challenge.rw_dp0021_01.row.prog w) ((ktrTop dp un gd cn cs L a ccd cl outer).deeper (envOfC qual scope L' f cdv)) (leaving (envOfC qual scope L' f cdv) e) (fun _ s'' => E e s'') (fun e' s'' => E e' s'') s') B' F' X' N' T' hck hd1 hu ?_
  · have e : fdOf w f = fnOf name qual params body scope dV kV doc pm an cdv ct := by unfold fdOf; rw [ho]
    have eb : bodyOf w f = body := by unfold bodyOf; rw [e]
    rw [e, eb] at h
    exact h
  · intro v nw' m' h' tk' F'' N'' r
    exact ⟨L', m', nw', F'', N'', fun F₃ N₃ => hret v nw' h' tk' F₃ N₃ r⟩
theorem k64 (w : World) (number : Int) (tn : Tok) (news : List (Addr × Obj)) (hn : 0 ≤ number) : CallsS w 64 [.int number tn] news 3 (DrawR news) := by
  refine' CallsX.of (binds := [(Str.ofString "number", .int number tn)]) ?ho ?hcd ?hb ?hl ?hn ?c1 ?c2 ?c3 ?H
  case ho => k_is
  case hcd => k_is
  case c1 => rfl
  case c2 => rfl
  case c3 => rfl
  case hb => intro s; exact BindsTo.of_eq (by kernel_rfl)
  case hl => rfl
  case hn => decide
  case H =>
    intro L' cells CA hl
    have CA' : CellsAre _ [(Str.ofString "zoned", L' + 3), (Str.ofString "parts", L' + 2), (Str.ofString "zeros", L' + 1)] cells := CA
    clear CA
    cases CA' with | cons c3 r => ?_
    cases r with | cons c2 r => ?_
    cases r with | cons c1 r => ?_
    cases r
    refine RunsX.less (nw2 := (L' + 1, _) :: (L' + 2, _) :: (L' + 3, _) :: news) ?_ (d0 w _ L' number tn _ _ _ _ _ _ news hn c1 c2 c3 (by rfl) hl)
    intro p hp
    rcases List.mem_cons.mp hp with rfl | hp
    · exact .tail _ (.tail _ (.head _))
    rcases List.mem_cons.mp hp with rfl | hp
    · exact .tail _ (.head _)
    rcases List.mem_cons.mp hp with rfl | hp
    · exact .head _
    · exact .tail _ (.tail _ (.tail _ hp))
end
section
set_option maxRecDepth 100000
set_option maxHeartbeats 8000000
theorem turn_F {h₀ h₀' h : Heap} {L : Addr} {m : Str → Option Value} (t : KtsTurn [] h₀ h₀') (F : Fr h₀' L h m) : Fr h₀ L h m :=
  ⟨F.ns, fun b o e => F.keep b o (t.other b o e (by simp)), by have := F.above; rw [t.size] at this; exact this⟩
theorem turn_N {h₀ h₀' h : Heap} {L : Addr} {news : List (Addr × Obj)} (t : KtsTurn [] h₀ h₀') (N : News h₀' L h news) : News h₀ L h news := fun p hp => by
  obtain ⟨a, b, c⟩ := N p hp
  refine ⟨a, b, ?_⟩
  cases e : h₀.get? p.1 with
  | none => rfl
  | some o => rw [t.other _ _ e (by simp)] at c; cases c
theorem Calls.use0 {w : World} {f : Addr} {vs : List Value} {news : List (Addr × Obj)} {dn : Nat} {R : Value → List (Addr × Obj) → Prop} (H : CallsS w f vs news dn R)
    {mean : ExcName → Option Value} {mg mb : Str → Option Value} {h₀ : Heap} {L f' : Addr} {qual : Str} {scope : Scope} {cdv : Value} {m : Str → Option Value} {s : Shared} {Q E : Value → Shared → Prop}
    (F : Fr h₀ L s.heap m) (N : News h₀ L s.heap news) (X : (topK.heap_1 w.params).In h₀) (T : Top topK.view_1 loo mean mg mb h₀) (hk : scope.kind = .function) (hdn : dn ≤ 5)
    (hret : ∀ v nw h' tk', Fr h₀ L h' m → News h₀ L h' nw → R v nw → Q v { s with heap := h', toks := tk' }) :
    wpAny (model Challenge.rw_dp0021_01.row.prog w) (callerA.deeper (envOf qual scope L f' cdv)) (call (.ref f) vs) Q E s :=
  H.run mean mg mb (1 + claimMargin + 1) 7 (some []) qual scope f' cdv [] [] callerA h₀ h₀ L m s Q E (below_caller h₀) F X N T hk (Nat.lt_of_le_of_lt (Nat.add_le_add_left hdn _) (by decide)) (Nat.lt_of_le_of_lt (show 7 + 8 * dn ≤ 47 by omega) (by decide)) hret
theorem CallsC.use0 {w : World} {f : Addr} {vs : List Value} {news : List (Addr × Obj)} {dn : Nat} {R : Value → List (Addr × Obj) → Prop} (H : CallsC w f vs news dn R)
    {mean : ExcName → Option Value} {mg mb : Str → Option Value} {h₀ : Heap} {L f' : Addr} {qual : Str} {scope : Scope} {cdv : Value} {m : Str → Option Value} {s : Shared} {Q E : Value → Shared → Prop}
    (F : Fr h₀ L s.heap m) (N : News h₀ L s.heap news) (X : (topK.heap_1 w.params).In h₀) (T : Top topK.view_1 loo mean mg mb h₀) (hk : scope.kind = .function) (hdn : dn ≤ 5)
    (hret : ∀ v nw h' tk', Fr h₀ L h' m → News h₀ L h' nw → R v nw → Q v { s with heap := h', toks := tk' }) :
    wpC (model Challenge.rw_dp0021_01.row.prog w) (callerA.deeper (envOf qual scope L f' cdv)) (call (.ref f) vs) Q E s :=
  H mean mg mb (1 + claimMargin + 1) 7 (some []) qual scope f' cdv [] [] callerA h₀ h₀ L m s Q E (below_caller h₀) F X N T hk (Nat.lt_of_le_of_lt (Nat.add_le_add_left hdn _) (by decide)) (Nat.lt_of_le_of_lt (show 7 + 8 * dn ≤ 47 by omega) (by decide))
    (fun v nw h' tk' h₀' t _ F' N' r => hret v nw h' tk' (turn_F t F') (turn_N t N') r)
/-- the read answer and the due one agree -/
noncomputable def Same : Option PRes → Option PRes → Prop
  | none, none => True
  | some a, some b => a.yy = b.yy ∧ a.mm = b.mm ∧ a.dd = b.dd ∧ a.hh = b.hh ∧ a.mi = b.mi ∧ a.ss = b.ss ∧ a.tz.getD 0 = b.tz.getD 0
  | _, _ => False
noncomputable def loopOf (b : List Stmt) : List Stmt := match b with
  | .For _ _ body _ _ :: _ => body
  | _ => []
/-- a turn of the law's loop -/
structure LawTurn (w : World) : Prop where
  run : ∀ (mean : ExcName → Option Value) (mg mb : Str → Option Value) (h₀ : Heap) (L fa : Addr) (cdv : Value) (m : Str → Option Value) (x : Int) (tx : Tok) (news : List (Addr × Obj)) (s : Shared), Top topK.view_1 loo mean mg mb h₀ → (topK.heap_1 w.params).In h₀ → Fr h₀ L s.heap m → m (Str.ofString "x") = some (.int x tx) → News h₀ L s.heap news →
    wpC (model Challenge.rw_dp0021_01.row.prog w) (callerA.deeper (envOf (fdOf w 71).qualname (fdOf w 71).scope L fa cdv)) (execs (loopOf (bodyOf w 71)) (envOf (fdOf w 71).qualname (fdOf w 71).scope L fa cdv)) (fun f s' => f = .next ∧ ∃ h' tk' m', s' = { s with heap := h', toks := tk' } ∧ Fr h₀ L h' m' ∧ News h₀ L h' news) (fun _ _ => False) s
theorem LawTurn.intro {w : World} {name qual : Str} {params : Arguments} {body lb : List Stmt} {scope : Scope} {dV kV doc pm cdv0 ct oc : Value} {an od : Option Addr} {osl : Array (Option Value)}
    (ho : (topK.heap_1 w.params).lookup 71 = some ⟨oc, od, .func (fnOf name qual params body scope dV kV doc pm an cdv0 ct), osl⟩) (hb : loopOf body = lb)
    (h : ∀ (mean : ExcName → Option Value) (mg mb : Str → Option Value) (h₀ : Heap) (L fa : Addr) (cdv : Value) (m : Str → Option Value) (x : Int) (tx : Tok) (news : List (Addr × Obj)) (s : Shared), Top topK.view_1 loo mean mg mb h₀ → (topK.heap_1 w.params).In h₀ → Fr h₀ L s.heap m → m (Str.ofString "x") = some (.int x tx) → News h₀ L s.heap news →
    wpC (model Challenge.rw_dp0021_01.row.prog w) (callerA.deeper (envOf qual scope L fa cdv)) (execs lb (envOf qual scope L fa cdv)) (fun f s' => f = .next ∧ ∃ h' tk' m', s' = { s with heap := h', toks := tk' } ∧ Fr h₀ L h' m' ∧ News h₀ L h' news) (fun _ _ => False) s) : LawTurn w := by
  subst hb
  refine ⟨?_⟩
  intro mean mg mb h₀ L fa cdv m x tx news s T X F hx N
  have e : fdOf w 71 = fnOf name qual params body scope dV kV doc pm an cdv0 ct := by unfold fdOf; rw [ho]
  have eb : bodyOf w 71 = body := by unfold bodyOf; rw [e]
  rw [e, eb]
  exact h mean mg mb h₀ L fa cdv m x tx news s T X F hx N
theorem LawTurn.elim {w : World} (H : LawTurn w) {name qual : Str} {params : Arguments} {body lb : List Stmt} {scope : Scope} {dV kV doc pm cdv0 ct oc : Value} {an od : Option Addr} {osl : Array (Option Value)}
    (ho : (topK.heap_1 w.params).lookup 71 = some ⟨oc, od, .func (fnOf name qual params body scope dV kV doc pm an cdv0 ct), osl⟩) (hb : loopOf body = lb)
    {mean : ExcName → Option Value} {mg mb : Str → Option Value} {h₀ : Heap} {L fa : Addr} {cdv : Value} {m : Str → Option Value} {x : Int} {tx : Tok} {news : List (Addr × Obj)} {s : Shared} (T : Top topK.view_1 loo mean mg mb h₀) (X : (topK.heap_1 w.params).In h₀) (F : Fr h₀ L s.heap m) (hx : m (Str.ofString "x") = some (.int x tx)) (N : News h₀ L s.heap news) :
    wpC (model Challenge.rw_dp0021_01.row.prog w) (callerA.deeper (envOf qual scope L fa cdv)) (execs lb (envOf qual scope L fa cdv)) (fun f s' => f = .next ∧ ∃ h' tk' m', s' = { s with heap := h', toks := tk' } ∧ Fr h₀ L h' m' ∧ News h₀ L h' news) (fun _ _ => False) s := by
  subst hb
  have h := H.run mean mg mb h₀ L fa cdv m x tx news s T X F hx N
  have e : fdOf w 71 = fnOf name qual params body scope dV kV doc pm an cdv0 ct := by unfold fdOf; rw [ho]
  have eb : bodyOf w 71 = body := by unfold bodyOf; rw [e]
  rw [e, eb] at h
  exact h
end
section
theorem reset40 : True := by
  k_with_none
  w_top off
  trivial
set_option maxRecDepth 100000
set_option maxHeartbeats 8000000
theorem lawT (w : World) (PL : ∀ d : Draw, d.Ok → (dTxt d).length ≤ 2000 ∧ Fit2 (Txt.words (dTxt d)) ∧ Same (f2 (Txt.words (dTxt d))) (dDue d)) : LawTurn w := by
  refine' LawTurn.intro ?ho ?hb ?_
  case ho => k_is
  case hb => rfl
  intro mean mg mb h₀ L fa cdv m x tx news s T X F hx N
  refine execs_consC (wpC_of ?_)
  k_steps
  all_goals (
    refine Calls.use0 (k64 w _ _ news (by omega)) (by k_asm) (by k_asm) (by assumption) (by assumption) (by rfl) (by decide) ?_
    intro v nw h' tk' F' N' r
    obtain ⟨d, hd', kp, D, tt, dv, rfl, hD, hdue⟩ := r
    obtain ⟨hl, hfit, hsame⟩ := PL d hd'
    have c1 := fun tx' nw => c24 w (dTxt d) tx' nw hl hfit
    have c2 := fun tx' nw => c38 w (dTxt d) tx' nw hl hfit
    generalize dTxt d = txt at *
    generalize f2 (Txt.words txt) = rr at *
    cases hq : dDue d with
    | none =>
      rw [hq] at hdue hsame
      have hdv : dv = .none := hdue
      subst hdv
      obtain rfl : rr = none := by cases rr with | none => rfl | some _ => exact hsame.elim
      have N2 := cb_drop N' (news := (D, ({ cls := Value.type "tuple", data := .seq #[.str txt tt, .none] } : Obj)) :: news) (fun p hp => by rcases List.mem_cons.mp hp with rfl | hp; exact hD; exact kp p hp)
      clear N'
      k_steps
      dsimp only
      refine execs_consC (If_C (isTrue_Compare1C (Call_C ?_)))
      k_steps
      refine callWith_KC (by k_asm) (by k_is) ?_
      k_steps
      refine CallsC.use0 (c1 _ _) (by k_asm) (by k_asm) (by assumption) (by assumption) (by rfl) (by decide) ?_
      intro v2 nw2 h2 tk2 F2 N2 r2
      obtain ⟨kp2, rfl⟩ := r2
      k_steps
      have N3 := cb_drop N2 kp2
      clear N2 kp2
      refine execs_nilC ?_
      dsimp only
      refine execs_consC (If_C (isTrue_Compare1C (Call_C ?_)))
      k_steps
      refine callWith_KC (by k_asm) (by k_is) ?_
      k_steps
      refine CallsC.use0 (c2 _ _) (by k_asm) (by k_asm) (by assumption) (by assumption) (by rfl) (by decide) ?_
      intro v2 nw2 h2 tk2 F2 N2 r2
      obtain ⟨kp2, rfl⟩ := r2
      k_steps
      have N4 := cb_drop N2 kp2
      clear N2 kp2
      refine execs_nilC ?_
      dsimp only
      refine execs_nilC ?_
      exact ⟨rfl, _, _, _, rfl, by k_asm, cb_drop N4 (fun p hp => .tail _ hp)⟩
    | some y =>
      rw [hq] at hdue hsame
      obtain ⟨U, t1, t2, t3, t4, t5, t6, t7, t8, t9, t10, rfl, hU⟩ := hdue
      obtain ⟨z, rfl⟩ : ∃ z, rr = some z := by cases rr with | none => exact hsame.elim | some z => exact ⟨z, rfl⟩
      rcases y with ⟨yy, mm, dd, hh, mi, ss, tz⟩
      rcases z with ⟨yy', mm', dd', hh', mi', ss', tz'⟩
      obtain ⟨e1, e2, e3, e4, e5, e6, e7⟩ := hsame
      dsimp only at e1 e2 e3 e4 e5 e6 e7 hU
      subst e1 e2 e3 e4 e5 e6
      rw [← e7] at hU
      generalize hzz : tz'.getD 0 = zz at hU
      have N2 := cb_drop N' (news := (D, ({ cls := Value.type "tuple", data := .seq #[.str txt tt, .ref U] } : Obj)) :: (U, ({ cls := Value.type "tuple", data := .seq #[.int yy' t1, .int mm' t2, .int dd' t3, .int hh' t4, .int mi' t5, .int ss' t6, .int 0 t7, .int 1 t8, .int (-1) t9, .int zz t10] } : Obj)) :: news) (fun p hp => by
        rcases List.mem_cons.mp hp with rfl | hp
        · exact hD
        rcases List.mem_cons.mp hp with rfl | hp
        · exact hU
        · exact kp p hp)
      clear N'
      k_steps
      dsimp only
      refine execs_consC (If_C (isTrue_Compare1C (Call_C ?_)))
      k_steps
      refine callWith_KC (by k_asm) (by k_is) ?_
      k_steps
      refine CallsC.use0 (c1 _ _) (by k_asm) (by k_asm) (by assumption) (by assumption) (by rfl) (by decide) ?_
      intro v2 nw2 h2 tk2 F2 N2 r2
      obtain ⟨kp2, D2, u1, u2, u3, u4, u5, u6, u7, u8, u9, u10, rfl, hD2⟩ := r2
      dsimp only at hD2
      rw [hzz] at hD2
      have N3 := cb_drop N2 (news := (D2, ({ cls := Value.type "tuple", data := .seq #[.int yy' u1, .int mm' u2, .int dd' u3, .int hh' u4, .int mi' u5, .int ss' u6, .int 0 u7, .int 1 u8, .int (-1) u9, .int zz u10] } : Obj)) :: (D, ({ cls := Value.type "tuple", data := .seq #[.str txt tt, .ref U] } : Obj)) :: (U, ({ cls := Value.type "tuple", data := .seq #[.int yy' t1, .int mm' t2, .int dd' t3, .int hh' t4, .int mi' t5, .int ss' t6, .int 0 t7, .int 1 t8, .int (-1) t9, .int zz t10] } : Obj)) :: news) (fun p hp => by
        rcases List.mem_cons.mp hp with rfl | hp
        · exact hD2
        · exact kp2 p hp)
      clear N2 kp2 hD2
      k_steps
      have N4 := cb_drop N3 (fun p hp => .tail _ hp)
      clear N3
      refine execs_nilC ?_
      dsimp only
      refine execs_consC (If_C (isTrue_Compare1C (Call_C ?_)))
      k_steps
      refine callWith_KC (by k_asm) (by k_is) ?_
      k_steps
      refine CallsC.use0 (c2 _ _) (by k_asm) (by k_asm) (by assumption) (by assumption) (by rfl) (by decide) ?_
      intro v2 nw2 h2 tk2 F2 N2 r2
      obtain ⟨kp2, D2, u1, u2, u3, u4, u5, u6, u7, u8, u9, rfl, hD2⟩ := r2
      dsimp only at hD2
      have N3 := cb_drop N2 (news := (D2, ({ cls := Value.type "tuple", data := .seq #[.int yy' u1, .int mm' u2, .int dd' u3, .int hh' u4, .int mi' u5, .int ss' u6, .int 0 u7, .int 1 u8, .int (-1) u9] } : Obj)) :: (U, ({ cls := Value.type "tuple", data := .seq #[.int yy' t1, .int mm' t2, .int dd' t3, .int hh' t4, .int mi' t5, .int ss' t6, .int 0 t7, .int 1 t8, .int (-1) t9, .int zz t10] } : Obj)) :: news) (fun p hp => by
        rcases List.mem_cons.mp hp with rfl | hp
        · exact hD2
        · exact kp2 p (.tail _ hp))
      clear N2 kp2 hD2
      (k_with "subscriptTail Name Slice ref ref" => apply Hold.out)
      k_steps
      refine Hold.mk ?_
      k_with_none
      refine slice_nine (s := { heap := _, gens := _, drawn := _, toks := _, os := _ }) (by k_asm) (by k_asm) (News.isTup (by k_asm) (.tail _ (.head _))) ?_
      intro h3 F3 N5
      clear N3
      k_steps
      refine execs_nilC ?_
      dsimp only
      refine execs_nilC ?_
      exact ⟨rfl, _, _, _, rfl, by k_asm, cb_drop N5 (fun p hp => .tail _ (.tail _ (.tail _ hp)))⟩)
end
section
theorem reset41 : True := by
  k_with_none
  w_top off
  trivial
set_option maxRecDepth 100000
set_option maxHeartbeats 8000000
/-- the law is called by the claim's caller: its body, walked upon a fresh frame, gives what the claim asks -/
theorem enter_law {prog : Program} {w : World} {s : Shared} {c : ClaimW} {cl : Str → Option Addr} {mean : ExcName → Option Value} {args : List WData} {name : Str} {params : Arguments} {body : List Stmt} {scope : Scope}
    {dV kV pm cd doc : Value} {a : Addr} {o : Obj} {vals : List Value} {binds : List (Str × Value)} (ho : s.heap.get? a = some o)
    (isDef : o.data = .func { docDef name params body scope pm cd doc with defaults := dV, kwdefaults := kV }) (free : s.heap.NoLimit) (isCode : s.heap.CodeRec cd name)
    (bound : BindsTo s { docDef name params body scope pm cd doc with defaults := dV, kwdefaults := kV } ⟨vals, []⟩ binds) (ownNames : ∀ x ∈ binds, scope.names.lookup x.1 = some .local)
    (walk : ∀ h₁, Fr s.heap s.heap.objs.size h₁ (fun x => binds.reverse.lookup x) →
      wpC (model prog w) (callerA.deeper (envOf name scope s.heap.objs.size a cd)) (execs body (envOf name scope s.heap.objs.size a cd))
        (fun f => GoodW c cl mean args s (.ok (.ret (match f with | .ret v => v | _ => .none))))
        (fun e => wpAny (model prog w) (callerA.deeper (envOf name scope s.heap.objs.size a cd)) (leaving (envOf name scope s.heap.objs.size a cd) e)
          (fun _ => GoodW c cl mean args s (.error e)) fun e' => GoodW c cl mean args s (.error e'))
        { s with heap := h₁, toks := s.toks + binds.length })
    (plain : scope.isCoroutine = false ∧ scope.isGenerator = false ∧ scope.kind = .function := by exact ⟨rfl, rfl, rfl⟩) (noCell : ∀ x ∈ scope.names, x.2 ≠ .cell := by decide) :
    wpC (model prog w) callerA (PySem.call (.ref a) vals) (fun v => GoodWG c cl mean args s (.ok (.ret v))) (fun e => GoodWG c cl mean args s (.error e)) s := by
  have code : codeC (model prog w) callerA (.call (.ref a) ⟨vals, []⟩) (GoodW c cl mean args s) s :=
    codeC_call_def (by decide) ho isDef free isCode rfl bound noCell ownNames (fun h₁ n₁ k₁ => walk h₁ ⟨n₁, k₁, Nat.le_refl _⟩) plain.1 plain.2.1 plain.2.2
  refine wpC_call (codeC_mono code fun res s' g => ?_)
  have g' := GoodW.toG g
  obtain ⟨v, _, _, rfl, _⟩ | ⟨e, _, _, rfl, _⟩ := g.1 <;> exact g'
theorem ints_mem {vs : List Value} {ns : List Int} (h : IntsAre vs ns) : ∀ v ∈ vs, ∃ x t, v = .int x t := by
  induction h with
  | nil => intro v hv; cases hv
  | cons i t _ ih =>
    intro v hv
    rcases List.mem_cons.mp hv with rfl | hv
    · exact ⟨i, t, rfl⟩
    · exact ih v hv
theorem walkAll (PL : ∀ d : Draw, d.Ok → (dTxt d).length ≤ 2000 ∧ Fit2 (Txt.words (dTxt d)) ∧ Same (f2 (Txt.words (dTxt d))) (dDue d)) {d : DefRec} {kwd : List (Str × Expr)} (e : defOf topK.view_1 lawName = some (d, kwd)) : WalkL d kwd := walk_of (by rfl) (by
  intro w s₀ s₁ mg mb G Y fa o pm cd doc dV kV ho hd hcd hD hmg hg args vals as hpre hlay hrd hwl hlo
  have KX : (topK.heap_1 w.params).In s₁.heap := Y
  have X := (Ground.X G).1
  have V := (Ground.X G).2
  refine Ground.open G ?_
  intro T B D TE TW
  try (refine guard_noD D (by decide +kernel) ?_; clear D)
  obtain ⟨_, _, M⟩ := bmod_of_top T
  have TA := at_of_top T
  try (obtain ⟨_, _, he, B0⟩ := based_of_top T rfl hmg ho hd; have he' : cd = _ := he; subst he'; clear he)
  clear hmg
  wrow_args hpre hlay hrd hwl hlo
  all_goals (
    have K0 := below_caller (Top.heap T)
    have he := Dflts.none hD rfl; subst he
    refine enter_law ho hd (Top.nolimit T) hcd (BindsTo.of_eq rfl) (locs rfl) fun h₁ F => ?_
    w_binds F
    have N0 := (News.nil : News _ _ _ []).at F
    have LT := lawT w PL
    dsimp only
    refine execs_consC ?_
    refine For_listC (h₀ := s₁.heap) rfl rfl rfl ?_
    k_steps
    all_goals (
      first
        | (refine ⟨_, _, _, _, rfl, by k_asm, by k_asm, .inl (by assumption), ?_, ?_⟩)
        | (refine ⟨_, _, _, _, rfl, by k_asm, by k_asm, .inr ⟨_, .head _, rfl, _, rfl⟩, ?_, ?_⟩)
      · intro v hv I oI m₂ h tk F N
        have hvi : ∃ x t, v = .int x t := by
          first
            | exact ints_mem (by assumption) v (by simpa using hv)
            | exact ⟨_, _, by simpa using hv⟩
        obtain ⟨x, t, rfl⟩ := hvi
        have F' : Fr s₁.heap s₁.heap.objs.size h _ := F
        have N' : News s₁.heap s₁.heap.objs.size h _ := N
        exact @LawTurn.elim w LT _ _ _ _ _ _ _ _ _ _ _ _ _ _ _ _ (by k_is) (by rfl) _ _ _ _ s₁.heap.objs.size fa _ _ x t _ { s₁ with heap := h, toks := tk } T KX F' rfl N'
      · intro h tk m' F
        dsimp only
        refine execs_consC (wpC_of ?_)
        k_steps))) e
end
end Mine
end
section
open PySem PySem.W PyProof.Rows
set_option maxRecDepth 100000
namespace Mine
open PySem.Builtin PySem.Builtin.Str PySem.StrLaws PySem.NumText

theorem s_colon : Str.ofString ":" = ⟨#[58]⟩ := by decide +kernel
theorem s_dot : Str.ofString "." = ⟨#[46]⟩ := by decide +kernel
theorem s_comma : Str.ofString "," = ⟨#[44]⟩ := by decide +kernel
theorem s_plus : Str.ofString "+" = ⟨#[43]⟩ := by decide +kernel
theorem s_dash : Str.ofString "-" = ⟨#[45]⟩ := by decide +kernel
theorem s_nil : Str.ofString "" = ⟨#[]⟩ := by decide +kernel

theorem last_of {l : List Nat} (h : l ≠ []) : ∃ a c, l = a ++ [c] := ⟨l.dropLast, l.getLast h, (List.dropLast_concat_getLast h).symm⟩
theorem chop_no {x : Str} (h : sg x ≠ []) (h2 : 44 ∉ sg x) : chop x = x := by
  obtain ⟨a, c, e⟩ := last_of h
  unfold chop
  rw [item_last e, s_comma]
  rw [if_neg]
  intro q
  have := Str.mk.inj (eq_of_beq q)
  have : c = 44 := by simpa using this
  exact h2 (by rw [e, ← this]; simp)
theorem chop_yes {x : Str} {a : List Nat} (e : sg x = a ++ [44]) : chop x = ⟨a.toArray⟩ := by
  unfold chop
  rw [item_last e, s_comma, if_pos (by exact beq_self_eq_true _), slice_last e]

/-- no time can be read from it -/
noncomputable def TBad (x : Str) : Prop := ∀ yy dd mm tz, f19 yy dd x mm tz = none
theorem TBad.f18 {t : Str} (h : TBad t) (yy dd : Str) (mm : Int) (tz : Str) : f18 yy dd t mm tz = none := by
  unfold Mine.f18; split <;> exact h _ _ _ _
theorem TBad.f17 {t : Str} (h : TBad t) (yy dd : Str) (mm : Int) (tz : Str) : f17 yy dd t mm tz = none := by
  unfold Mine.f17
  split
  · split
    · rfl
    · exact h.f18 _ _ _ _
  · exact h.f18 _ _ _ _
theorem f16_bad {y t : Str} (hy : TBad y) (ht : TBad t) (dd : Str) (mm : Int) (tz : Str) : f16 y dd t mm tz = none := by
  unfold f16; split
  · exact hy.f17 _ _ _ _
  · exact ht.f17 _ _ _ _
theorem f9_bad {c d : Str} (hc : TBad c) (hd : TBad d) (a b e : Str) : f9 c a b d e = none := by
  unfold f9
  split
  · rfl
  · exact f16_bad hc hd _ _ _

theorem f4_cons (a b c d : Str) (r : List Str) : f4 (a :: b :: c :: d :: r) = f9 c a b d (r.headD (Str.ofString "")) := by
  cases r <;> rfl
theorem f4_tbad {a b c d : Str} {r : List Str} (hc : TBad c) (hd : TBad d) : f4 (a :: b :: c :: d :: r) = none := by
  rw [f4_cons]; exact f9_bad hc hd _ _ _
theorem f4_all : ∀ {l : List Str}, (∀ x ∈ l, TBad x) → f4 l = none
  | [], _ => rfl
  | [_], _ => rfl
  | [_, _], _ => rfl
  | [_, _, _], _ => rfl
  | a :: b :: c :: d :: r, h => f4_tbad (h c (.tail _ (.tail _ (.head _)))) (h d (.tail _ (.tail _ (.tail _ (.head _)))))
/-- none of the words is a month -/
theorem f4_month : ∀ {l : List Str}, (∀ x ∈ l, monthIdx (Txt.lower x) = none) → f4 l = none
  | [], _ => rfl
  | [_], _ => rfl
  | [_, _], _ => rfl
  | [_, _, _], _ => rfl
  | a :: b :: c :: d :: r, h => by
    rw [f4_cons]
    unfold f9 monthOf
    rw [h a (.head _), h b (.tail _ (.head _))]

theorem timeOf_plain {x : Str} (h1 : 58 ∉ sg x) (h2 : 46 ∉ sg x) : timeOf x = none := by
  unfold timeOf
  rw [s_colon, split_none h1]
  dsimp only
  rw [s_dot, contains_one, decide_eq_false h2]
  rfl
theorem chop_sub {x : Str} (h : sg x ≠ []) : ∀ c ∈ sg (chop x), c ∈ sg x := by
  obtain ⟨a, c, e⟩ := last_of h
  intro d hd
  by_cases hc : c = 44
  · subst hc
    rw [chop_yes e] at hd
    rw [e]
    exact List.mem_append_left _ hd
  · unfold chop at hd
    rw [item_last e, s_comma, if_neg] at hd
    · exact hd
    · intro q
      have := Str.mk.inj (eq_of_beq q)
      exact hc (by simpa using this)
theorem tbad_of {x : Str} (h : timeOf (chop x) = none) : TBad x := fun yy dd mm tz => by
  unfold f19 clock5; rw [h]
theorem tbad_plain {x : Str} (h : sg x ≠ []) (h1 : 58 ∉ sg x) (h2 : 46 ∉ sg x) : TBad x :=
  tbad_of (timeOf_plain (fun q => h1 (chop_sub h _ q)) (fun q => h2 (chop_sub h _ q)))
theorem ints5_mm {yy dd hh mi : Str} {ss : Option Int} {mm : Int} {tz : Str} (h : PySem.intText? mi = none) : ints5 yy dd hh mi ss mm tz = none := by
  unfold ints5
  rw [h]
  cases PySem.intText? yy with
  | none => rfl
  | some y => cases PySem.intText? dd with
    | none => rfl
    | some d => cases PySem.intText? hh <;> rfl

/-- the answer, the time being read -/
noncomputable def fin (yy dd : Str) (mm : Int) (tz : Str) (h mi s : Int) : Option PRes := match PySem.intText? yy with
  | none => none
  | some y => match PySem.intText? dd with
    | none => none
    | some d => some ⟨yearOf y, mm, d, h, mi, s, tzFin (tzOf (Txt.upper tz))⟩
theorem fin_y {yy dd : Str} {mm : Int} {tz : Str} {h mi s : Int} (e : PySem.intText? yy = none) : fin yy dd mm tz h mi s = none := by
  unfold fin; rw [e]
theorem fin_d {yy dd : Str} {mm : Int} {tz : Str} {h mi s : Int} (e : PySem.intText? dd = none) : fin yy dd mm tz h mi s = none := by
  unfold fin; rw [e]; cases PySem.intText? yy <;> rfl
/-- a right time -/
structure TOk (t : Str) (h mi s : Int) : Prop where
  fin : ∀ yy dd mm tz, f19 yy dd t mm tz = Mine.fin yy dd mm tz h mi s
/-- it begins with a digit -/
structure YLike (y : Str) : Prop where
  dig : ∃ c r, sg y = c :: r ∧ 48 ≤ c ∧ c ≤ 57
  nc : 58 ∉ sg y
  nk : 44 ∉ sg y
/-- it begins with another sign -/
structure ZLike (z : Str) : Prop where
  dig : ∃ c r, sg z = c :: r ∧ c < 128 ∧ ¬ (48 ≤ c ∧ c ≤ 57)
  nk : 44 ∉ sg z
theorem item_no {x : Str} (h : sg x ≠ []) (h2 : 44 ∉ sg x) : (Txt.item x (-1) == Str.ofString ",") = false := by
  obtain ⟨a, c, e⟩ := last_of h
  rw [item_last e, s_comma]
  rw [beq_eq_false_iff_ne]
  intro q
  have := Str.mk.inj q
  have : c = 44 := by simpa using this
  exact h2 (by rw [e, ← this]; simp)
theorem f17_y {y : Str} (h : YLike y) (dd t : Str) (mm : Int) (tz : Str) : f17 y dd t mm tz = f19 y dd t mm tz := by
  obtain ⟨c, r, e, hc⟩ := h.dig
  unfold f17
  rw [item_no (by rw [e]; simp) h.nk, if_neg (by decide)]
  unfold f18
  rw [item_first e, isdigit_one c (by omega), if_pos (decide_eq_true hc)]
theorem f17_z {z : Str} (h : ZLike z) (dd t : Str) (mm : Int) (tz : Str) : f17 z dd t mm tz = f19 tz dd t mm z := by
  obtain ⟨c, r, e, h1, hc⟩ := h.dig
  unfold f17
  rw [item_no (by rw [e]; simp) h.nk, if_neg (by decide)]
  unfold f18
  rw [item_first e, isdigit_one c h1, if_neg (by rw [decide_eq_false hc]; decide)]
theorem f16_no {y : Str} (h : 58 ∉ sg y) (dd t : Str) (mm : Int) (tz : Str) : f16 y dd t mm tz = f17 y dd t mm tz := by
  unfold f16
  rw [s_colon, find_none h, if_neg (by decide)]
/-- it has a colon, not at its head -/
noncomputable def Col (t : Str) : Prop := ∃ a b, sg t = a ++ 58 :: b ∧ 58 ∉ a ∧ a ≠ []
theorem f16_yes {t : Str} (h : Col t) (dd w : Str) (mm : Int) (tz : Str) : f16 t dd w mm tz = f17 w dd t mm tz := by
  obtain ⟨a, b, e, h1, h2⟩ := h
  unfold f16
  rw [s_colon, find_some e h1, if_pos]
  have : 0 < a.length := List.length_pos_iff.mpr h2
  omega
/-- the time ahead of a zone, no year behind it -/
theorem f16_tz {t z : Str} {h mi s : Int} (ht : TOk t h mi s) (hz : ZLike z) (hb : TBad z) {tz : Str} (hi : PySem.intText? tz = none) (dd : Str) (mm : Int) : f16 t dd z mm tz = none := by
  unfold f16
  split
  · rw [f17_z hz, ht.fin, fin_y hi]
  · exact hb.f17 _ _ _ _
end Mine
end
section
open PySem PySem.W PyProof.Rows
set_option maxRecDepth 100000
set_option maxHeartbeats 4000000
namespace Mine
open PySem.Builtin PySem.Builtin.Str PySem.StrLaws PySem.NumText

theorem vis_asc {x : Str} (h : Vis (sg x)) : Asc x := fun c hc => by have := h c hc; omega
theorem space_vis : ∀ c, c < 127 → 33 ≤ c → Unicode.isSpace c = false := by decide +kernel
theorem vis_solid {l : List Nat} (h : Vis l) (hn : l ≠ []) : Solid l := ⟨hn, fun c hc => space_vis c (h c hc).2 (h c hc).1⟩

noncomputable def letter (c : Nat) : Prop := (65 ≤ c ∧ c ≤ 90) ∨ (97 ≤ c ∧ c ≤ 122)
theorem month_letters : ∀ y ∈ monthYs, ∀ c ∈ y.cps.toList, 97 ≤ c ∧ c ≤ 122 := by decide +kernel
theorem lo_other {c : Nat} (h : ¬ letter c) : aLo c = c := by
  unfold aLo letter at *
  rw [if_neg]; omega
theorem nm_of {x : Str} {c : Nat} (h : Asc x) (hc : c ∈ sg x) (hl : ¬ letter c) : monthIdx (Txt.lower x) = none := by
  unfold monthIdx
  rw [List.findIdx?_eq_none_iff]
  intro y hy
  rw [beq_eq_false_iff_ne]
  rintro rfl
  have h1 : aLo c ∈ (Txt.lower x).cps.toList := by rw [lower_toList h]; exact List.mem_map_of_mem hc
  rw [lo_other hl] at h1
  have := month_letters _ hy c h1
  unfold letter at hl; omega
theorem day_of {x : Str} {c : Nat} (h : Asc x) (hc : c ∈ sg x) (hl : ¬ letter c) : dayName x = false := by
  have h1 : aLo c ∈ (Txt.lower x).cps.toList := by rw [lower_toList h]; exact List.mem_map_of_mem hc
  rw [lo_other hl] at h1
  unfold dayName
  simp only [Bool.or_eq_false_iff, decide_eq_false_iff_not]
  unfold letter at hl
  refine ⟨?_, ?_, ?_, ?_, ?_, ?_, ?_, trivial⟩ <;> (intro e; rw [e] at h1; simp at h1; omega)

/-- a word of the law's texts -/
structure Gw (x : Str) : Prop where
  vis : Vis (sg x)
  ne : sg x ≠ []
  len : x.length ≤ 80
  pm : ∀ c r, sg x = c :: r → 43 ∉ r ∧ 45 ∉ r
  com : 44 ∉ sg x ∨ ∃ a, sg x = a ++ [44] ∧ 44 ∉ a
  day : dayName x = false

theorem Gw.wd {x : Str} (h : Gw x) : Wd x := by
  obtain ⟨c, r, e⟩ : ∃ c r, sg x = c :: r := by
    cases q : sg x with
    | nil => exact absurd q h.ne
    | cons c r => exact ⟨c, r, rfl⟩
  obtain ⟨h1, h2⟩ := h.pm c r e
  have fnd : ∀ k : Nat, k ∉ r → Txt.find x ⟨#[k]⟩ ≤ 0 := by
    intro k hk
    by_cases hc : c = k
    · subst hc
      rw [find_some (a := []) (b := r) (by simpa using e) (by simp)]
      simp
    · rw [find_none (by rw [e]; simp; exact ⟨fun q => hc q.symm, hk⟩)]
      decide
  refine ⟨⟨Nat.le_trans h.len (by decide), vis_asc h.vis⟩, ?_, ?_, ?_, ?_⟩
  · rw [len_toList, show x.cps.toList = _ from e]; simp
  · rw [s_dash]
    by_cases hc : c = 45
    · subst hc
      rw [split_of (x := x) (c := 45) (p := [⟨#[]⟩, ⟨r.toArray⟩]) (by simp) (by
        intro y hy
        simp only [List.mem_cons, List.not_mem_nil, or_false] at hy
        rcases hy with rfl | rfl
        · simp
        · simpa using h2) (by rw [sg_join_cons, e]; simp [Str.join])]
      simp
    · rw [split_none (by rw [e]; simp; exact ⟨fun q => hc q.symm, h2⟩)]
      simp
  · rw [s_plus]; exact fnd 43 h1
  · rw [s_dash]; exact fnd 45 h2
theorem Gw.ok {x : Str} (h : Gw x) : Ok x := h.wd.ok

theorem wk_plain {x : Str} (h : Gw x) (hc : 44 ∉ sg x) (r : List Str) : wk x r = x :: r := by
  obtain ⟨a, c, e⟩ := last_of h.ne
  unfold wk
  rw [s_comma, endswith_one e, if_neg, if_neg (by rw [h.day]; decide), rfind_none hc, if_neg (by decide)]
  intro q
  have : c = 44 := of_decide_eq_true q
  exact hc (by rw [e, this]; simp)
theorem wk_comma {x : Str} {a : List Nat} (e : sg x = a ++ [44]) (r : List Str) : wk x r = r := by
  unfold wk
  rw [s_comma, endswith_one e, if_pos (by decide)]
theorem sg_fri (x : Str) : sg (Str.ofString "Fri," ++ x) = [70, 114, 105, 44] ++ sg x := by
  rw [sg_append]
  congr 1
theorem wk_fri {x : Str} (h : Gw x) (hc : 44 ∉ sg x) (r : List Str) : wk (Str.ofString "Fri," ++ x) r = x :: r := by
  obtain ⟨a, c, e⟩ := last_of h.ne
  have hv : Asc (Str.ofString "Fri," ++ x) := by
    intro d hd
    have hd : d ∈ sg (Str.ofString "Fri," ++ x) := hd
    rw [sg_fri] at hd
    rcases List.mem_append.mp hd with q | q
    · simp at q; omega
    · exact vis_asc h.vis d q
  have e1 : sg (Str.ofString "Fri," ++ x) = ([70, 114, 105, 44] ++ a) ++ [c] := by rw [sg_fri, e]; simp
  unfold wk
  rw [s_comma, endswith_one e1, if_neg, if_neg (by rw [day_of hv (c := 44) (by rw [show (sg (Str.ofString "Fri," ++ x)) = _ from sg_fri x]; simp) (by unfold letter; omega)]; decide)]
  · have hr : Txt.rfind (Str.ofString "Fri," ++ x) ⟨#[44]⟩ = 3 := by
      rw [rfind_some (a := [70, 114, 105]) (b := sg x) (by rw [sg_fri]; rfl) hc]; rfl
    rw [hr, if_pos (by decide), slice_from (a := [70, 114, 105, 44]) (b := sg x) (sg_fri x) (3 + 1) rfl]
  · intro q
    have : c = 44 := of_decide_eq_true q
    exact hc (by rw [e, this]; simp)
theorem wk_fri_comma {x : Str} {a : List Nat} (e : sg x = a ++ [44]) (r : List Str) : wk (Str.ofString "Fri," ++ x) r = r :=
  wk_comma (a := [70, 114, 105, 44] ++ a) (by rw [sg_fri, e]; simp) r
theorem wk_tabs : ∀ j, j < 9 → (Txt.endswith (wkTab.getD j Str.empty) (Str.ofString ",") || dayName (wkTab.getD j Str.empty)) = true := by decide +kernel
theorem wk_tab {j : Nat} (h : j < 9) (r : List Str) : wk (wkTab.getD j Str.empty) r = r := by
  have := wk_tabs j h
  unfold wk
  rcases Bool.or_eq_true_iff.mp this with q | q
  · rw [if_pos q]
  · by_cases q2 : Txt.endswith (wkTab.getD j Str.empty) (Str.ofString ",") = true
    · rw [if_pos q2]
    · rw [if_neg q2, if_pos q]

/-- the words behind the weekday -/
theorem f2_week {week : Int} (h1 : 0 ≤ week) (h2 : week < 11) {W : List Str} (hW : ∀ x ∈ W, Gw x) :
    f2 (wkW week W) = f4 W ∨ ∃ x r, W = x :: r ∧ 44 ∈ sg x ∧ f2 (wkW week W) = f4 r := by
  by_cases hw : 1 < week
  · left
    have e : wkW week W = wkTab.getD (week - 2).toNat Str.empty :: W := by
      unfold wkW; rw [if_neg (by omega), if_pos hw]
    rw [e]
    show f4 (wk _ W) = _
    rw [wk_tab (by omega)]
  · rcases W with _ | ⟨x, r⟩
    · left
      have e : wkW week [] = [] := by
        unfold wkW
        by_cases q : week = 1
        · rw [if_pos q]
        · rw [if_neg q, if_neg hw]
      rw [e]; rfl
    · have hx := hW x (.head _)
      by_cases q : week = 1
      · have e : wkW week (x :: r) = (Str.ofString "Fri," ++ x) :: r := by unfold wkW; rw [if_pos q]
        rw [e]
        show f4 (wk _ r) = _ ∨ ∃ y s, _ ∧ _ ∧ f4 (wk _ r) = _
        rcases hx.com with hc | ⟨a, ha, _⟩
        · left; rw [wk_fri hx hc]
        · right; exact ⟨x, r, rfl, by rw [ha]; simp, by rw [wk_fri_comma ha]⟩
      · have e : wkW week (x :: r) = x :: r := by unfold wkW; rw [if_neg q, if_neg hw]
        rw [e]
        show f4 (wk _ r) = _ ∨ ∃ y s, _ ∧ _ ∧ f4 (wk _ r) = _
        rcases hx.com with hc | ⟨a, ha, _⟩
        · left; rw [wk_plain hx hc]
        · right; exact ⟨x, r, rfl, by rw [ha]; simp, by rw [wk_comma ha]⟩
theorem tab_ok : ∀ j, j < 9 → (wkTab.getD j Str.empty).length ≤ 80 ∧ ((wkTab.getD j Str.empty).cps.toList.all fun c => decide (33 ≤ c ∧ c < 127)) = true ∧ (wkTab.getD j Str.empty).cps.toList ≠ [] := by decide +kernel
theorem tab_vis {j : Nat} (h : j < 9) : Vis (sg (wkTab.getD j Str.empty)) := fun c hc => of_decide_eq_true (List.all_eq_true.mp (tab_ok j h).2.1 c hc)
theorem fri_vis {x : Str} (h : Vis (sg x)) : Vis (sg (Str.ofString "Fri," ++ x)) := by
  rw [sg_fri]
  refine Vis.append ?_ h
  intro c hc
  simp at hc; omega
/-- every word of the text is solid, and not long -/
theorem week_words {week : Int} (h1 : 0 ≤ week) (h2 : week < 11) {W : List Str} (hW : ∀ x ∈ W, Gw x) : ∀ x ∈ wkW week W, Vis (sg x) ∧ sg x ≠ [] ∧ x.length ≤ 90 := by
  have base : ∀ x ∈ W, Vis (sg x) ∧ sg x ≠ [] ∧ x.length ≤ 90 := fun x hx => ⟨(hW x hx).vis, (hW x hx).ne, Nat.le_trans (hW x hx).len (by decide)⟩
  unfold wkW
  split
  · rcases W with _ | ⟨x, r⟩
    · exact base
    · intro y hy
      rcases List.mem_cons.mp hy with rfl | hy
      · exact ⟨fri_vis (hW x (.head _)).vis, by rw [sg_fri]; simp, friLen (hW x (.head _)).len⟩
      · exact base y (.tail _ hy)
  · split
    · intro y hy
      rcases List.mem_cons.mp hy with rfl | hy
      · exact ⟨tab_vis (by omega), (tab_ok _ (by omega)).2.2, Nat.le_trans (tab_ok _ (by omega)).1 (by decide)⟩
      · exact base y hy
    · exact base
theorem week_fit {week : Int} (h1 : 0 ≤ week) (h2 : week < 11) {W : List Str} (hW : ∀ x ∈ W, Gw x) (hl : W.length ≤ 19) : Fit2 (wkW week W) := by
  have ww := week_words h1 h2 hW
  have tl : ∀ y ∈ W, Wd y := fun y hy => (hW y hy).wd
  by_cases hw : 1 < week
  · have e : wkW week W = wkTab.getD (week - 2).toNat Str.empty :: W := by
      unfold wkW; rw [if_neg (by omega), if_pos hw]
    rw [e] at ww ⊢
    refine ⟨⟨(ww _ (.head _)).2.2, vis_asc (ww _ (.head _)).1⟩, ?_, hl⟩
    rw [wk_tab (by omega)]
    exact tl
  · rcases W with _ | ⟨x, r⟩
    · have e : wkW week [] = [] := by
        unfold wkW
        by_cases q : week = 1
        · rw [if_pos q]
        · rw [if_neg q, if_neg hw]
      rw [e]; trivial
    · have hx := hW x (.head _)
      have hl' : r.length ≤ 19 := by simp only [List.length_cons] at hl; omega
      by_cases q : week = 1
      · have e : wkW week (x :: r) = (Str.ofString "Fri," ++ x) :: r := by unfold wkW; rw [if_pos q]
        rw [e] at ww ⊢
        refine ⟨⟨(ww _ (.head _)).2.2, vis_asc (ww _ (.head _)).1⟩, ?_, hl'⟩
        rcases hx.com with hc | ⟨a, ha, _⟩
        · rw [wk_fri hx hc]; exact tl
        · rw [wk_fri_comma ha]; exact fun y hy => tl y (.tail _ hy)
      · have e : wkW week (x :: r) = x :: r := by unfold wkW; rw [if_neg q, if_neg hw]
        rw [e] at ww ⊢
        refine ⟨hx.ok, ?_, hl'⟩
        rcases hx.com with hc | ⟨a, ha, _⟩
        · rw [wk_plain hx hc]; exact tl
        · rw [wk_comma ha]; exact fun y hy => tl y (.tail _ hy)
end Mine
end
section
open PySem PySem.W PyProof.Rows
set_option maxRecDepth 100000
set_option maxHeartbeats 4000000
namespace Mine
open PySem.Builtin PySem.Builtin.Str PySem.StrLaws PySem.NumText

theorem sep_ok : ∀ j, j < 4 → ((sepTab.getD j Str.empty).cps.toList.all fun c => Unicode.isSpace c) = true ∧ (sepTab.getD j Str.empty).cps.toList ≠ [] ∧ (sepTab.getD j Str.empty).length ≤ 3 := by decide +kernel
theorem sep_j {white : Int} (_h1 : 0 ≤ white) : (white.fmod 4).toNat < 4 := by
  rw [Int.fmod_eq_emod_of_nonneg _ (by decide)]; omega
theorem sep_blank {j : Nat} (h : j < 4) : Blank (sg (sepTab.getD j Str.empty)) := fun c hc => List.all_eq_true.mp (sep_ok j h).1 c hc
theorem words_txt {white : Int} (h1 : 0 ≤ white) {ws : List Str} (hw : ∀ x ∈ ws, Vis (sg x) ∧ sg x ≠ [] ∧ x.length ≤ 90) : Txt.words (txtOf white ws) = ws := by
  have hj := sep_j h1
  have hs : ∀ x ∈ ws, Solid (sg x) := fun x hx => vis_solid (hw x hx).1 (hw x hx).2.1
  unfold txtOf
  split
  · exact words_join (sep_blank hj) (sep_ok _ hj).2.1 hs
  · exact words_join2 (sep_blank hj) (sep_ok _ hj).2.1 (by decide +kernel) hs
theorem join_len {sep : Str} (hs : sep.length ≤ 3) {B : Nat} : ∀ ws : List Str, (∀ x ∈ ws, x.length ≤ B) → (Str.join sep ws).length ≤ ws.length * (B + 3)
  | [], _ => by show (Str.empty).length ≤ _; simp [Str.length, Str.empty]
  | [x], h => by
    show x.length ≤ _
    have := h x (.head _)
    simp; omega
  | x :: y :: r, h => by
    show (x ++ sep ++ Str.join sep (y :: r)).length ≤ _
    have ih := join_len hs (y :: r) fun z hz => h z (.tail _ hz)
    have hx := h x (.head _)
    rw [Str.length_append, Str.length_append, List.length_cons, Nat.succ_mul]
    omega
theorem txt_len {white : Int} (h1 : 0 ≤ white) {ws : List Str} (hw : ∀ x ∈ ws, x.length ≤ 90) (hl : ws.length ≤ 12) : (txtOf white ws).length ≤ 2000 := by
  have hj := (sep_ok _ (sep_j h1)).2.2
  have e0 : (Str.ofString "").length ≤ 90 := by decide +kernel
  unfold txtOf
  rw [show ∀ a b, Txt.join a b = Str.join a b from fun a b => glued_eq_join a b]
  split
  · have := join_len hj ws hw
    have : ws.length * 93 ≤ 12 * 93 := Nat.mul_le_mul_right _ hl
    omega
  · have h2 : ∀ x ∈ Str.ofString "" :: (ws ++ [Str.ofString ""]), x.length ≤ 90 := by
      intro x hx
      rcases List.mem_cons.mp hx with rfl | hx
      · exact e0
      · rcases List.mem_append.mp hx with hx | hx
        · exact hw x hx
        · rw [List.mem_singleton.mp hx]; exact e0
    have := join_len hj _ h2
    simp only [List.length_cons, List.length_append, List.length_nil] at this
    have : (ws.length + (0 + 1) + 1) * 93 ≤ 14 * 93 := Nat.mul_le_mul_right _ (by omega)
    omega

/-- a word without marks -/
structure Plain (x : Str) : Prop where
  ne : sg x ≠ []
  ch : ∀ c ∈ sg x, 47 ≤ c ∧ c ≤ 122 ∧ c ≠ 58
  len : x.length ≤ 80
theorem Plain.vis {x : Str} (h : Plain x) : Vis (sg x) := fun c hc => by have := h.ch c hc; omega
theorem Plain.no {x : Str} (h : Plain x) {c : Nat} (hc : c < 47 ∨ c = 58) : c ∉ sg x := fun q => by have := h.ch c q; omega
theorem Plain.gw {x : Str} (h : Plain x) (hd : dayName x = false) : Gw x :=
  ⟨h.vis, h.ne, h.len, fun c r e => ⟨fun q => h.no (c := 43) (.inl (by decide)) (by rw [e]; exact .tail _ q), fun q => h.no (c := 45) (.inl (by decide)) (by rw [e]; exact .tail _ q)⟩, .inl (h.no (.inl (by decide))), hd⟩
theorem Plain.tbad {x : Str} (h : Plain x) : TBad x := tbad_plain h.ne (h.no (.inr rfl)) (h.no (.inl (by decide)))

theorem Dig.plain {x : Str} (h : Dig x) : Plain x := ⟨h.ne, fun c hc => by have := h.all c hc; omega, Nat.le_trans h.len (by decide)⟩
theorem Dig.first {x : Str} (h : Dig x) : ∃ c r, sg x = c :: r ∧ 48 ≤ c ∧ c ≤ 57 := by
  cases q : sg x with
  | nil => exact absurd q h.ne
  | cons c r => exact ⟨c, r, rfl, h.all c (by rw [q]; exact .head _)⟩
theorem dig_nl {c : Nat} (h : 48 ≤ c ∧ c ≤ 57) : ¬ letter c := by unfold letter; omega
theorem lo_id {x : Str} (h : Asc x) (hc : ∀ c ∈ sg x, ¬ (65 ≤ c ∧ c ≤ 90)) : Txt.lower x = x := by
  apply sg_ext
  show (Txt.lower x).cps.toList = _
  rw [lower_toList h]
  conv => rhs; rw [← List.map_id (sg x)]
  apply List.map_congr_left
  intro c q
  unfold aLo
  rw [if_neg (hc c q)]; rfl
theorem up_id {x : Str} (h : Asc x) (hc : ∀ c ∈ sg x, ¬ (97 ≤ c ∧ c ≤ 122)) : Txt.upper x = x := by
  apply sg_ext
  show (Txt.upper x).cps.toList = _
  rw [upper_toList h]
  conv => rhs; rw [← List.map_id (sg x)]
  apply List.map_congr_left
  intro c q
  unfold aUp
  rw [if_neg (hc c q)]; rfl

theorem sg_mul0 {zeros : Int} (h : 0 ≤ zeros) (h2 : zeros < 4) : ∃ n, sg (Txt.mul (Str.ofString "0") zeros) = List.replicate n 48 ∧ n ≤ 3 := by
  have hz4 : zeros = 0 ∨ zeros = 1 ∨ zeros = 2 ∨ zeros = 3 := by omega
  rcases hz4 with rfl | rfl | rfl | rfl
  · exact ⟨0, by decide +kernel, by decide⟩
  · exact ⟨1, by decide +kernel, by decide⟩
  · exact ⟨2, by decide +kernel, by decide⟩
  · exact ⟨3, by decide +kernel, by decide⟩
theorem dStr_dig {zeros v : Int} (hz : 0 ≤ zeros) (hz2 : zeros < 4) (hv : 0 ≤ v) (hv2 : v < 100000000000000000000) : Dig (dStr zeros v) ∧ PySem.intText? (dStr zeros v) = some v := by
  obtain ⟨n, e, hn⟩ := sg_mul0 hz hz2
  have es : sg (dStr zeros v) = List.replicate n 48 ++ dg v := by
    unfold dStr; rw [sg_append, e, sg_num hv]
  have hd : Dig (dStr zeros v) := by
    refine ⟨?_, ?_, ?_⟩
    · rw [es]
      intro c hc
      rcases List.mem_append.mp hc with q | q
      · rw [(List.mem_replicate.mp q).2]; decide
      · exact dg_all v c q
    · rw [es]; intro q; exact dg_ne v (List.append_eq_nil_iff.mp q).2
    · rw [len_toList, show (dStr zeros v).cps.toList = _ from es, List.length_append, List.length_replicate]
      have := dg_len hv hv2; omega
  refine ⟨hd, ?_⟩
  rw [int_dig hd, es, val_zeros, dg_val hv]

/-- the day's word -/
structure DayW (a : Str) : Prop where
  pl : Plain a
  day : dayName a = false
  nm : monthIdx (Txt.lower a) = none
  lo : Txt.lower a = a
theorem dig_lo {a : Str} (pl : Plain a) (h : ∀ c ∈ sg a, ¬ (65 ≤ c ∧ c ≤ 90)) {c : Nat} (hc : c ∈ sg a) (hl : ¬ letter c) : DayW a :=
  ⟨pl, day_of (vis_asc pl.vis) hc hl, nm_of (vis_asc pl.vis) hc hl, lo_id (vis_asc pl.vis) h⟩
theorem s_x : sg (Str.ofString "x") = [120] := by decide +kernel
theorem len_sg (x : Str) : x.length = (sg x).length := len_toList x
theorem day_right {x : Str} (h : Dig x) : DayW x := by
  obtain ⟨c, r, e, hc⟩ := h.first
  exact dig_lo h.plain (fun d hd => by have := h.all d hd; omega) (c := c) (by rw [e]; exact .head _) (dig_nl hc)
theorem day_bad {x a : Str} (h : Dig x) (ha : a ∈ sp0 x) : DayW a ∧ PySem.intText? a = none := by
  obtain ⟨c, r, e, hc⟩ := h.first
  have hcm : c ∈ sg x := by rw [e]; exact .head _
  unfold sp0 at ha
  simp only [List.mem_cons, List.not_mem_nil, or_false] at ha
  have hl := h.len
  rw [len_sg] at hl
  rcases ha with rfl | rfl | rfl
  · have pl : Plain (Str.ofString "x") := ⟨by rw [s_x]; simp, by rw [s_x]; intro c hc; simp at hc; omega, by rw [len_sg, s_x]; decide⟩
    refine ⟨⟨pl, by decide +kernel, by decide +kernel, by decide +kernel⟩, ?_⟩
    exact int_bad pl.vis (c := 120) (by rw [s_x]; simp) (by omega) (by omega) (by omega) (by omega)
  · have es : sg (x ++ Str.ofString "x") = sg x ++ [120] := by rw [sg_append, s_x]
    have ch : ∀ d ∈ sg (x ++ Str.ofString "x"), (48 ≤ d ∧ d ≤ 57) ∨ d = 120 := by
      intro d hd
      rw [es] at hd
      rcases List.mem_append.mp hd with q | q
      · exact .inl (h.all d q)
      · exact .inr (by simpa using q)
    have pl : Plain (x ++ Str.ofString "x") := ⟨by rw [es]; simp, fun d hd => by have := ch d hd; omega, by rw [len_sg, es, List.length_append]; simp only [List.length_cons, List.length_nil]; omega⟩
    refine ⟨dig_lo pl (fun d hd => by have := ch d hd; omega) (c := c) (by rw [es]; exact List.mem_append_left _ hcm) (dig_nl hc), ?_⟩
    exact int_bad pl.vis (c := 120) (by rw [es]; simp) (by omega) (by omega) (by omega) (by omega)
  · have es : sg (Str.ofString "x" ++ x) = [120] ++ sg x := by rw [sg_append, s_x]
    have ch : ∀ d ∈ sg (Str.ofString "x" ++ x), (48 ≤ d ∧ d ≤ 57) ∨ d = 120 := by
      intro d hd
      rw [es] at hd
      rcases List.mem_append.mp hd with q | q
      · exact .inr (by simpa using q)
      · exact .inl (h.all d q)
    have pl : Plain (Str.ofString "x" ++ x) := ⟨by rw [es]; simp, fun d hd => by have := ch d hd; omega, by rw [len_sg, es, List.length_append]; simp only [List.length_cons, List.length_nil]; omega⟩
    refine ⟨dig_lo pl (fun d hd => by have := ch d hd; omega) (c := c) (by rw [es]; exact List.mem_append_right _ hcm) (dig_nl hc), ?_⟩
    exact int_bad pl.vis (c := 120) (by rw [es]; simp) (by omega) (by omega) (by omega) (by omega)

/-- the year's word -/
structure YearW (y : Str) : Prop where
  pl : Plain y
  day : dayName y = false
  nm : monthIdx (Txt.lower y) = none
  yl : YLike y
theorem year_of {y : Str} (pl : Plain y) {c : Nat} {r : List Nat} (e : sg y = c :: r) (hc : 48 ≤ c ∧ c ≤ 57) : YearW y :=
  ⟨pl, day_of (vis_asc pl.vis) (c := c) (by rw [e]; exact .head _) (dig_nl hc), nm_of (vis_asc pl.vis) (c := c) (by rw [e]; exact .head _) (dig_nl hc), ⟨⟨c, r, e, hc⟩, pl.no (.inr rfl), pl.no (.inl (by decide))⟩⟩
theorem year_right {x : Str} (h : Dig x) : YearW x := by
  obtain ⟨c, r, e, hc⟩ := h.first
  exact year_of h.plain e hc
theorem s_e1 : sg (Str.ofString "e1") = [101, 49] := by decide +kernel
theorem s_sl : sg (Str.ofString "/") = [47] := by decide +kernel
theorem year_app {x t : Str} (h : Dig x) {l : List Nat} (et : sg t = l) (hl : ∀ c ∈ l, 47 ≤ c ∧ c ≤ 122 ∧ c ≠ 58) (hn : l.length ≤ 5) {b : Nat} (hb : b ∈ l) (h1 : ¬ (48 ≤ b ∧ b ≤ 57)) (h2 : b ≠ 95) : YearW (x ++ t) ∧ PySem.intText? (x ++ t) = none := by
  obtain ⟨c, r, e, hc⟩ := h.first
  have es : sg (x ++ t) = sg x ++ l := by rw [sg_append, et]
  have hlen := h.len
  rw [len_sg] at hlen
  have pl : Plain (x ++ t) := ⟨by rw [es]; simp [h.ne], fun d hd => by
    rw [es] at hd
    rcases List.mem_append.mp hd with q | q
    · have := h.all d q; omega
    · exact hl d q, by rw [len_sg, es, List.length_append]; omega⟩
  have hb2 := hl b hb
  exact ⟨year_of pl (c := c) (r := r ++ l) (by rw [es, e]; rfl) hc, int_bad pl.vis (c := b) (by rw [es]; exact List.mem_append_right _ hb) h1 h2 (by omega) (by omega)⟩
theorem year_bad {x y : Str} (h : Dig x) (hy : y ∈ sp2 x) : YearW y ∧ PySem.intText? y = none := by
  unfold sp2 at hy
  simp only [List.mem_cons, List.not_mem_nil, or_false] at hy
  rcases hy with rfl | rfl | rfl
  · exact year_app h s_x (by intro c hc; simp at hc; omega) (by decide) (b := 120) (by simp) (by omega) (by omega)
  · exact year_app h s_e1 (by intro c hc; simp at hc; omega) (by decide) (b := 101) (by simp) (by omega) (by omega)
  · exact year_app h s_sl (by intro c hc; simp at hc; omega) (by decide) (b := 47) (by simp) (by omega) (by omega)

/-- the month's word -/
structure MonW (b : Str) : Prop where
  pl : Plain b
  day : dayName b = false
noncomputable def plainB (x : Str) : Bool := !x.cps.toList.isEmpty && x.cps.toList.all (fun c => decide (47 ≤ c ∧ c ≤ 122 ∧ c ≠ 58)) && decide (x.length ≤ 80)
theorem plain_of {x : Str} (h : plainB x = true) : Plain x := by
  unfold plainB at h
  simp only [Bool.and_eq_true, decide_eq_true_eq, List.all_eq_true] at h
  exact ⟨(fun q => by have := h.1.1; rw [show x.cps.toList = [] from q] at this; cases this), h.1.2, h.2⟩
/-- dayName, of a text already lowered -/
noncomputable def dayB (y : Str) : Bool := decide (y = { cps := #[109, 111, 110] }) ||
      (decide (y = { cps := #[116, 117, 101] }) ||
        (decide (y = { cps := #[119, 101, 100] }) ||
          (decide (y = { cps := #[116, 104, 117] }) ||
            (decide (y = { cps := #[102, 114, 105] }) ||
              (decide (y = { cps := #[115, 97, 116] }) ||
                (decide (y = { cps := #[115, 117, 110] }) || false))))))
theorem dayB_eq (x : Str) : dayName x = dayB (Txt.lower x) := rfl
theorem mon_allQ : ∀ j, j < 24 → ∀ c : Fin 4, plainB (caseQ (nameTab.getD j Str.empty) (c.val : Int)) = true ∧ dayB (qLo (caseQ (nameTab.getD j Str.empty) (c.val : Int))) = false ∧
    (monthIdx (qLo (caseQ (nameTab.getD j Str.empty) (c.val : Int)))).map monthNum = some ((j : Int) % 12 + 1) := by decide +kernel
theorem mon_all (j : Nat) (hj : j < 24) (c : Fin 4) : plainB (caseOf (nameTab.getD j Str.empty) (c.val : Int)) = true ∧ dayName (caseOf (nameTab.getD j Str.empty) (c.val : Int)) = false ∧
    (monthIdx (Txt.lower (caseOf (nameTab.getD j Str.empty) (c.val : Int)))).map monthNum = some ((j : Int) % 12 + 1) := by
  rw [dayB_eq, caseOf_q (nameTab_asc j hj), lower_q (asc_caseQ (nameTab_asc j hj) _)]
  exact mon_allQ j hj c
theorem mon_right {month cas : Int} (hm : 0 ≤ month) (hm2 : month < 24) (hc : 0 ≤ cas) (hc2 : cas < 4) : MonW (caseOf (nameTab.getD month.toNat Str.empty) cas) ∧ ∃ j, monthIdx (Txt.lower (caseOf (nameTab.getD month.toNat Str.empty) cas)) = some j ∧ monthNum j = month % 12 + 1 := by
  obtain ⟨c, rfl⟩ := Int.eq_ofNat_of_zero_le hc
  obtain ⟨k, rfl⟩ := Int.eq_ofNat_of_zero_le hm
  obtain ⟨h1, h2, h3⟩ := mon_all k (by omega) ⟨c, by omega⟩
  refine ⟨⟨plain_of h1, h2⟩, ?_⟩
  cases e : monthIdx (Txt.lower (caseOf (nameTab.getD k Str.empty) (c : Int))) with
  | none => rw [e] at h3; cases h3
  | some j =>
    rw [e] at h3
    exact ⟨j, e, Option.some.inj h3⟩
theorem mon_all2 : ∀ j, j < 24 → plainB (nameTab.getD j Str.empty ++ Str.ofString "n") = true ∧ dayName (nameTab.getD j Str.empty ++ Str.ofString "n") = false ∧ monthIdx (Txt.lower (nameTab.getD j Str.empty ++ Str.ofString "n")) = none := by decide +kernel
theorem mon_all3 : ∀ j, j < 24 → plainB (Txt.slice (nameTab.getD j Str.empty) none (some 2)) = true ∧ dayName (Txt.slice (nameTab.getD j Str.empty) none (some 2)) = false ∧ monthIdx (Txt.lower (Txt.slice (nameTab.getD j Str.empty) none (some 2))) = none := by decide +kernel
theorem num_dig {n : Int} (h : 0 ≤ n) (h2 : n < 100000000000000000000) : Dig (Str.ofString (toString n)) := by
  refine ⟨by rw [sg_num h]; exact dg_all n, by rw [sg_num h]; exact dg_ne n, Nat.le_trans (num_len h h2) (by decide)⟩
theorem mon_bad {month : Int} {b : Str} (hm : 0 ≤ month) (hm2 : month < 24) (hb : b ∈ sp1 month) : MonW b ∧ monthIdx (Txt.lower b) = none := by
  unfold sp1 at hb
  simp only [List.mem_cons, List.not_mem_nil, or_false] at hb
  rcases hb with rfl | rfl | rfl
  · obtain ⟨h1, h2, h3⟩ := mon_all2 month.toNat (by omega)
    exact ⟨⟨plain_of h1, h2⟩, h3⟩
  · have h := day_right (num_dig hm (by omega))
    exact ⟨⟨h.pl, h.day⟩, h.nm⟩
  · obtain ⟨h1, h2, h3⟩ := mon_all3 month.toNat (by omega)
    exact ⟨⟨plain_of h1, h2⟩, h3⟩
end Mine
end
section
open PySem PySem.W PyProof.Rows
set_option maxRecDepth 100000
set_option maxHeartbeats 4000000
namespace Mine
open PySem.Builtin PySem.Builtin.Str PySem.StrLaws PySem.NumText

/-- a zone's word -/
structure ZoneW (z : Str) (off : Int) : Prop where
  gw : Gw z
  nk : 44 ∉ sg z
  tb : TBad z
  nm : monthIdx (Txt.lower z) = none
  tz : (tzFin (tzOf (Txt.upper z))).getD 0 = off
noncomputable def zlikeB (x : Str) : Bool := match x.cps.toList with
  | c :: _ => decide (c < 128 ∧ ¬ (48 ≤ c ∧ c ≤ 57))
  | [] => false
theorem zone_allQ : ∀ j, j < 16 → ∀ c : Fin 4, plainB (caseQ (zTab.getD j (Str.ofString "", 0)).1 (c.val : Int)) = true ∧ dayB (qLo (caseQ (zTab.getD j (Str.ofString "", 0)).1 (c.val : Int))) = false ∧
    monthIdx (qLo (caseQ (zTab.getD j (Str.ofString "", 0)).1 (c.val : Int))) = none ∧ (tzFin (tzOf (qUp (caseQ (zTab.getD j (Str.ofString "", 0)).1 (c.val : Int))))).getD 0 = (zTab.getD j (Str.ofString "", 0)).2 * 3600 ∧ zlikeB (caseQ (zTab.getD j (Str.ofString "", 0)).1 (c.val : Int)) = true := by decide +kernel
theorem zone_all (j : Nat) (hj : j < 16) (c : Fin 4) : plainB (caseOf (zTab.getD j (Str.ofString "", 0)).1 (c.val : Int)) = true ∧ dayName (caseOf (zTab.getD j (Str.ofString "", 0)).1 (c.val : Int)) = false ∧
    monthIdx (Txt.lower (caseOf (zTab.getD j (Str.ofString "", 0)).1 (c.val : Int))) = none ∧ (tzFin (tzOf (Txt.upper (caseOf (zTab.getD j (Str.ofString "", 0)).1 (c.val : Int))))).getD 0 = (zTab.getD j (Str.ofString "", 0)).2 * 3600 ∧ zlikeB (caseOf (zTab.getD j (Str.ofString "", 0)).1 (c.val : Int)) = true := by
  rw [dayB_eq, caseOf_q (zTab_asc j hj), lower_q (asc_caseQ (zTab_asc j hj) _), upper_q (asc_caseQ (zTab_asc j hj) _)]
  exact zone_allQ j hj c
theorem zlike_of {x : Str} (h : zlikeB x = true) (hk : 44 ∉ sg x) : ZLike x := by
  refine ⟨?_, hk⟩
  unfold zlikeB at h
  cases e : x.cps.toList with
  | nil => rw [e] at h; cases h
  | cons c r =>
    rw [e] at h
    exact ⟨c, r, e, of_decide_eq_true h⟩
theorem zone_name {hours cas : Int} (hc : 0 ≤ cas) (hc2 : cas < 4) : ZoneW (caseOf (zName hours).1 cas) ((zName hours).2 * 3600) ∧ ZLike (caseOf (zName hours).1 cas) := by
  obtain ⟨c, rfl⟩ := Int.eq_ofNat_of_zero_le hc
  obtain ⟨h1, h2, h3, h4, h5⟩ := zone_all (hours % 16).toNat (by omega) ⟨c, by omega⟩
  have pl := plain_of h1
  have nk : 44 ∉ sg (caseOf (zTab.getD (hours % 16).toNat (Str.ofString "", 0)).1 (c : Int)) := pl.no (.inl (by decide))
  exact ⟨⟨pl.gw h2, nk, pl.tbad, h3, h4⟩, zlike_of h5 nk⟩

noncomputable def zDigits (hours minutes : Int) : List Nat := dg hours ++ ((if minutes < 10 then [48] else []) ++ dg minutes)
theorem pad_len : ∀ k : Fin 100, ((if (k.val : Int) < 10 then [48] else []) ++ dg (k.val : Int)).length = 2 := by decide +kernel
theorem zd_all (hours minutes : Int) : AllDigits (zDigits hours minutes) := by
  intro c hc
  unfold zDigits at hc
  rcases List.mem_append.mp hc with q | q
  · exact dg_all _ c q
  · rcases List.mem_append.mp q with q | q
    · split at q
      · rw [List.mem_singleton.mp q]; decide
      · cases q
    · exact dg_all _ c q
theorem zd_val {hours minutes : Int} (hh : 0 ≤ hours) (hm : 0 ≤ minutes) (hm2 : minutes < 100) : ((digitsVal (zDigits hours minutes) : Nat) : Int) = hours * 100 + minutes := by
  obtain ⟨k, rfl⟩ := Int.eq_ofNat_of_zero_le hm
  have hp := pad_len ⟨k, by omega⟩
  unfold zDigits
  rw [digitsVal_append, hp]
  have e2 : digitsVal ((if ((k : Nat) : Int) < 10 then [48] else []) ++ dg (k : Int)) = digitsVal (dg (k : Int)) := by
    split
    · exact val_zeros 1 _
    · rfl
  rw [e2]
  have h1 := dg_val hh
  have h2 := dg_val hm
  omega
theorem zd_ne (hours minutes : Int) : zDigits hours minutes ≠ [] := by
  unfold zDigits; intro q; exact dg_ne hours (List.append_eq_nil_iff.mp q).1
theorem zd_len {hours minutes : Int} (hh : 0 ≤ hours) (hh2 : hours < 100000000000000000000) (hm : 0 ≤ minutes) (hm2 : minutes < 100) : (zDigits hours minutes).length ≤ 22 := by
  obtain ⟨k, rfl⟩ := Int.eq_ofNat_of_zero_le hm
  have hp := pad_len ⟨k, by omega⟩
  unfold zDigits
  rw [List.length_append, hp]
  have := dg_len hh hh2
  omega
theorem zn_sg {way hours minutes : Int} {bare : Bool} (hh : 0 ≤ hours) (hm : 0 ≤ minutes) : sg (zNum way hours minutes bare) = sg (zSign way bare) ++ zDigits hours minutes := by
  unfold zNum zDigits
  rw [sg_append, sg_append, sg_append, sg_num hh, sg_num hm]
  have : sg (if minutes < 10 then Str.ofString "0" else Str.ofString "") = if minutes < 10 then [48] else [] := by
    split <;> decide +kernel
  rw [this]
  simp
theorem tzOf_int {z : Str} {c : Nat} (hc : c ∈ sg z) (h : ¬ (65 ≤ c ∧ c ≤ 90)) : tzOf z = tzInt z := by
  have key : ∀ l : List Nat, (∀ d ∈ l, 65 ≤ d ∧ d ≤ 90) → ¬ z = ⟨l.toArray⟩ := by
    rintro l hl rfl
    exact h (hl c (by simpa using hc))
  unfold tzOf
  rw [if_neg (key [85, 84] (by decide)), if_neg (key [85, 84, 67] (by decide)), if_neg (key [71, 77, 84] (by decide)), if_neg (key [90] (by decide)), if_neg (key [65, 83, 84] (by decide)), if_neg (key [65, 68, 84] (by decide)), if_neg (key [69, 83, 84] (by decide)), if_neg (key [69, 68, 84] (by decide)), if_neg (key [67, 83, 84] (by decide)), if_neg (key [67, 68, 84] (by decide)), if_neg (key [77, 83, 84] (by decide)), if_neg (key [77, 68, 84] (by decide)), if_neg (key [80, 83, 84] (by decide)), if_neg (key [80, 68, 84] (by decide))]
theorem tz_pos {n hours minutes : Int} (hn : n = hours * 100 + minutes) (hh : 0 ≤ hours) (hm : 0 ≤ minutes) (hm2 : minutes < 100) : (tzFin (some n)).getD 0 = 1 * (hours * 3600 + minutes * 60) := by
  unfold tzFin
  dsimp only
  have e1 : n.fdiv 100 = hours := by rw [Int.fdiv_eq_ediv_of_nonneg _ (by decide)]; omega
  have e2 : n.fmod 100 = minutes := by rw [Int.fmod_eq_emod_of_nonneg _ (by decide)]; omega
  by_cases h0 : n = 0
  · rw [if_pos h0]; show (0 : Int) = _; omega
  · rw [if_neg h0, if_neg (by omega), e1, e2]; rfl
theorem tz_neg {n hours minutes : Int} (hn : n = hours * 100 + minutes) (hh : 0 ≤ hours) (hm : 0 ≤ minutes) (hm2 : minutes < 100) (h0 : n ≠ 0) : (tzFin (some (-n))).getD 0 = -1 * (hours * 3600 + minutes * 60) := by
  unfold tzFin
  dsimp only
  have e1 : (- -n).fdiv 100 = hours := by rw [Int.neg_neg, Int.fdiv_eq_ediv_of_nonneg _ (by decide)]; omega
  have e2 : (- -n).fmod 100 = minutes := by rw [Int.neg_neg, Int.fmod_eq_emod_of_nonneg _ (by decide)]; omega
  rw [if_neg (by omega), if_pos (by omega), e1, e2]; rfl
theorem start_dash {z : Str} {r : List Nat} (e : sg z = 45 :: r) : Txt.startswith z (Str.ofString "-") = true := by
  rw [s_dash]
  unfold Txt.startswith
  rw [subAt_eq, show z.cps.toList = _ from e]
  have hl : z.length = r.length + 1 := by rw [len_sg, e]; rfl
  have hl2 : z.cps.size = r.length + 1 := hl
  simp [Str.length]
  omega
theorem zone_num {way hours minutes : Int} {bare : Bool} (_hw : way = 2 ∨ way = 3 ∨ way = 4) (hh : 0 ≤ hours) (hh2 : hours < 100000000000000000000) (hm : 0 ≤ minutes) (hm2 : minutes < 100) :
    ZoneW (zNum way hours minutes bare) ((if way = 2 then -1 else 1) * (hours * 3600 + minutes * 60)) ∧ (bare = false → ZLike (zNum way hours minutes bare)) := by
  have es := zn_sg (way := way) (bare := bare) hh hm
  have ad := zd_all hours minutes
  have ne := zd_ne hours minutes
  have hl := zd_len hh hh2 hm hm2
  have hv := zd_val hh hm hm2
  obtain ⟨d, ds, ed⟩ : ∃ d ds, zDigits hours minutes = d :: ds := by
    cases q : zDigits hours minutes with
    | nil => exact absurd q ne
    | cons d ds => exact ⟨d, ds, rfl⟩
  have hd : 48 ≤ d ∧ d ≤ 57 := ad d (by rw [ed]; exact .head _)
  have hs : (sg (zSign way bare) = [45] ∧ way = 2) ∨ (sg (zSign way bare) = [] ∧ bare = true ∧ way ≠ 2) ∨ (sg (zSign way bare) = [43] ∧ way ≠ 2) := by
    unfold zSign
    by_cases h2 : way = 2
    · left; rw [if_pos h2]; exact ⟨by decide +kernel, h2⟩
    · rw [if_neg h2]
      by_cases h3 : way = 3 ∧ bare = true
      · right; left; rw [if_pos h3]; exact ⟨by decide +kernel, h3.2, h2⟩
      · right; right; rw [if_neg h3]; exact ⟨by decide +kernel, h2⟩
  generalize hz : zNum way hours minutes bare = z at *
  have hdm : d ∈ sg z := by rw [es, ed]; exact List.mem_append_right _ (.head _)
  have sl : ∀ c ∈ sg (zSign way bare), c = 43 ∨ c = 45 := by
    intro c hc
    rcases hs with ⟨q, _⟩ | ⟨q, _, _⟩ | ⟨q, _⟩ <;> rw [q] at hc <;> simp at hc <;> omega
  have ch : ∀ c ∈ sg z, (48 ≤ c ∧ c ≤ 57) ∨ c = 43 ∨ c = 45 := by
    intro c hc
    rw [es] at hc
    rcases List.mem_append.mp hc with q | q
    · exact .inr (sl c q)
    · exact .inl (ad c q)
  have sln : (sg (zSign way bare)).length ≤ 1 := by rcases hs with ⟨q, _⟩ | ⟨q, _, _⟩ | ⟨q, _⟩ <;> rw [q] <;> simp
  have vis : Vis (sg z) := fun c hc => by have := ch c hc; omega
  have asc := vis_asc vis
  have nz : sg z ≠ [] := by rw [es, ed]; simp
  have nk : 44 ∉ sg z := fun q => by have := ch _ q; omega
  have zlen : z.length ≤ 80 := by rw [len_sg, es, List.length_append]; omega
  have gw : Gw z := by
    refine ⟨vis, nz, zlen, ?_, .inl nk, day_of asc hdm (dig_nl hd)⟩
    intro c r e
    have hr : ∀ k ∈ r, 48 ≤ k ∧ k ≤ 57 := by
      intro k hk
      rw [es] at e
      rcases hs with ⟨q, _⟩ | ⟨q, _, _⟩ | ⟨q, _⟩
      · rw [q] at e; injection e with _ e; rw [← e] at hk; exact ad k hk
      · rw [q, List.nil_append] at e; exact ad k (by rw [e]; exact .tail _ hk)
      · rw [q] at e; injection e with _ e; rw [← e] at hk; exact ad k hk
    exact ⟨fun q => by have := hr _ q; omega, fun q => by have := hr _ q; omega⟩
  have up : Txt.upper z = z := up_id asc fun c hc => by have := ch c hc; omega
  have ti : tzOf (Txt.upper z) = tzInt z := by rw [up]; exact tzOf_int hdm (by omega)
  refine ⟨⟨gw, nk, tbad_plain nz (fun q => by have := ch _ q; omega) (fun q => by have := ch _ q; omega), nm_of asc hdm (dig_nl hd), ?_⟩, ?_⟩
  · rw [ti]
    have z4 : z.length ≤ 4300 := Nat.le_trans zlen (by decide)
    unfold tzInt
    rcases hs with ⟨q, h2⟩ | ⟨q, _, h2⟩ | ⟨q, h2⟩
    · have e : sg z = 45 :: zDigits hours minutes := by rw [es, q]; rfl
      rw [intText_neg e ad ne z4, if_pos h2]
      dsimp only
      rw [hv, start_dash e]
      by_cases h0 : hours * 100 + minutes = 0
      · rw [if_pos ⟨by omega, rfl⟩]
        show (0 : Int) = _
        omega
      · rw [if_neg (fun x => h0 (by omega))]
        exact tz_neg rfl hh hm hm2 h0
    · have e : sg z = zDigits hours minutes := by rw [es, q]; rfl
      rw [intText_digits (by rw [show z.cps.toList = _ from e]; exact ad) nz z4, if_neg h2, show z.cps.toList = _ from e]
      dsimp only
      rw [hv, if_neg]
      · exact tz_pos rfl hh hm hm2
      · rintro ⟨_, hst⟩
        rw [s_dash] at hst
        unfold Txt.startswith at hst
        rw [subAt_eq, show z.cps.toList = _ from e, ed] at hst
        simp [Str.length] at hst
        omega
    · have e : sg z = 43 :: zDigits hours minutes := by rw [es, q]; rfl
      rw [int_plus e ad ne z4, if_neg h2]
      dsimp only
      rw [hv, if_neg]
      · exact tz_pos rfl hh hm hm2
      · rintro ⟨_, hst⟩
        rw [s_dash] at hst
        unfold Txt.startswith at hst
        rw [subAt_eq, show z.cps.toList = _ from e] at hst
        simp [Str.length] at hst
  · intro hb
    refine ⟨?_, nk⟩
    rcases hs with ⟨q, _⟩ | ⟨q, h3, _⟩ | ⟨q, _⟩
    · exact ⟨45, zDigits hours minutes, by rw [es, q]; rfl, by decide, by decide⟩
    · rw [hb] at h3; cases h3
    · exact ⟨43, zDigits hours minutes, by rw [es, q]; rfl, by decide, by decide⟩
end Mine
end
section
open PySem PySem.W PyProof.Rows
set_option maxRecDepth 100000
set_option maxHeartbeats 4000000
namespace Mine
open PySem.Builtin PySem.Builtin.Str PySem.StrLaws PySem.NumText

noncomputable def gwB (x : Str) : Bool := (match x.cps.toList with
  | _ :: r => r.all (fun d => decide (d ≠ 43 ∧ d ≠ 45))
  | [] => false) && x.cps.toList.all (fun c => decide (33 ≤ c ∧ c < 127 ∧ c ≠ 44)) && decide (x.length ≤ 80) && !dayName x
theorem gw_of {x : Str} (h : gwB x = true) : Gw x ∧ 44 ∉ sg x := by
  unfold gwB at h
  simp only [Bool.and_eq_true, decide_eq_true_eq, List.all_eq_true, Bool.not_eq_true'] at h
  obtain ⟨⟨⟨h1, h2⟩, h3⟩, h4⟩ := h
  have nk : 44 ∉ sg x := fun q => (h2 _ q).2.2 rfl
  have ne : sg x ≠ [] := fun q => by rw [show x.cps.toList = [] from q] at h1; cases h1
  refine ⟨⟨fun c hc => ⟨(h2 c hc).1, (h2 c hc).2.1⟩, ne, h3, ?_, .inl nk, h4⟩, nk⟩
  intro c r e
  rw [show x.cps.toList = c :: r from e] at h1
  simp only [List.all_eq_true, decide_eq_true_eq] at h1
  exact ⟨fun q => (h1 _ q).1 rfl, fun q => (h1 _ q).2 rfl⟩

/-- what is told of a word that is no time -/
structure OtherW (x : Str) : Prop where
  gw : Gw x
  tb : TBad x
  nm : monthIdx (Txt.lower x) = none

theorem more_all : ∀ j, j < 2 → gwB (moreTab.getD j Str.empty) = true ∧ monthIdx (Txt.lower (moreTab.getD j Str.empty)) = none ∧ (moreTab.getD j Str.empty).cps.toList.contains 58 = false ∧ (moreTab.getD j Str.empty).cps.toList.contains 46 = false := by decide +kernel
theorem more_w {n : Nat} : ∀ x ∈ moreTab.take n, OtherW x := by
  intro x hx
  have hx := List.mem_of_mem_take hx
  have : ∃ j, j < 2 ∧ x = moreTab.getD j Str.empty := by
    unfold moreTab at hx
    simp only [List.mem_cons, List.not_mem_nil, or_false] at hx
    rcases hx with rfl | rfl
    · exact ⟨0, by decide, rfl⟩
    · exact ⟨1, by decide, rfl⟩
  obtain ⟨j, hj, rfl⟩ := this
  obtain ⟨h1, h2, h3, h4⟩ := more_all j hj
  obtain ⟨g, _⟩ := gw_of h1
  exact ⟨g, tbad_plain g.ne (by simpa using h3) (by simpa using h4), h2⟩
theorem more_head (n : Nat) : PySem.intText? ((moreTab.take n).headD (Str.ofString "")) = none := by
  rcases n with _ | n
  · exact int_nil (by decide +kernel)
  · show PySem.intText? (Str.ofString "(day") = none
    have e : sg (Str.ofString "(day") = [40, 100, 97, 121] := by decide +kernel
    exact int_bad (c := 40) (by rw [e]; intro c hc; simp at hc; omega) (by rw [e]; simp) (by omega) (by omega) (by omega) (by omega)

section
variable {hour minute second : Str} {k : Nat}
noncomputable def coreT (hour minute second : Str) (k : Nat) (odd : Bool) : List Nat := sg hour ++ k :: (sg minute ++ (if odd then k :: sg second else []))
theorem mom_sg {mark : Str} {clock : Int} (hk : sg mark = [k]) : sg (momOf hour minute second mark clock) = coreT hour minute second k (decide (clock % 2 = 1)) ++ (if 4 ≤ clock then [44] else []) := by
  unfold momOf coreT
  rw [sg_append, sg_append, sg_append, sg_append, hk]
  have e1 : sg (if clock % 2 = 1 then mark ++ second else Str.ofString "") = if clock % 2 = 1 then k :: sg second else [] := by
    split
    · rw [sg_append, hk]; rfl
    · decide +kernel
  have e2 : sg (if 4 ≤ clock then Str.ofString "," else Str.ofString "") = if 4 ≤ clock then [44] else [] := by split <;> decide +kernel
  rw [e1, e2]
  by_cases h : clock % 2 = 1 <;> simp [h]
theorem core_ch (dh : Dig hour) (dm : Dig minute) (ds : Dig second) (odd : Bool) : ∀ c ∈ coreT hour minute second k odd, (48 ≤ c ∧ c ≤ 57) ∨ c = k := by
  intro c hc
  unfold coreT at hc
  rcases List.mem_append.mp hc with q | q
  · exact .inl (dh.all c q)
  rcases List.mem_cons.mp q with q | q
  · exact .inr q
  rcases List.mem_append.mp q with q | q
  · exact .inl (dm.all c q)
  split at q
  · rcases List.mem_cons.mp q with q | q
    · exact .inr q
    · exact .inl (ds.all c q)
  · cases q
theorem chop_mom {mark : Str} {clock : Int} (hk : sg mark = [k]) (hk2 : k = 46 ∨ k = 58) (dh : Dig hour) (dm : Dig minute) (ds : Dig second) : chop (momOf hour minute second mark clock) = ⟨(coreT hour minute second k (decide (clock % 2 = 1))).toArray⟩ := by
  have es := mom_sg (hour := hour) (minute := minute) (second := second) (clock := clock) hk
  by_cases h : 4 ≤ clock
  · rw [if_pos h] at es
    exact chop_yes es
  · rw [if_neg h, List.append_nil] at es
    rw [chop_no]
    · exact sg_ext (by rw [es])
    · rw [es]; unfold coreT; simp
    · rw [es]
      intro q
      have := core_ch (k := k) dh dm ds _ _ q
      omega
noncomputable def secT (second : Str) (k : Nat) (odd : Bool) : Sec := if odd then .s second else if k = 58 then .s (Str.ofString "0") else .i
theorem core_join (dh : Dig hour) (dm : Dig minute) (ds : Dig second) (odd : Bool) (hk2 : k = 46 ∨ k = 58) : Txt.split ⟨(coreT hour minute second k odd).toArray⟩ ⟨#[k]⟩ = if odd then [hour, minute, second] else [hour, minute] := by
  have nk : ∀ {x : Str}, Dig x → k ∉ sg x := fun d q => by have := d.all _ q; omega
  cases odd
  · refine split_of (by simp) ?_ ?_
    · intro y hy
      simp at hy
      rcases hy with rfl | rfl
      · exact nk dh
      · exact nk dm
    · show coreT hour minute second k false = sg (Str.join ⟨#[k]⟩ [hour, minute])
      rw [sg_join_cons]
      unfold coreT
      simp [Str.join]
  · refine split_of (by simp) ?_ ?_
    · intro y hy
      simp at hy
      rcases hy with rfl | rfl | rfl
      · exact nk dh
      · exact nk dm
      · exact nk ds
    · show coreT hour minute second k true = sg (Str.join ⟨#[k]⟩ [hour, minute, second])
      rw [sg_join_cons, sg_join_cons]
      unfold coreT
      simp [Str.join]
theorem time_core (dh : Dig hour) (dm : Dig minute) (ds : Dig second) (odd : Bool) (hk2 : k = 46 ∨ k = 58) : timeOf ⟨(coreT hour minute second k odd).toArray⟩ = some (hour, minute, secT second k odd) := by
  have hj := core_join dh dm ds odd hk2
  unfold timeOf
  rcases hk2 with rfl | rfl
  · have n58 : 58 ∉ sg (⟨(coreT hour minute second 46 odd).toArray⟩ : Str) := fun q => by have := core_ch (k := 46) dh dm ds odd 58 q; omega
    rw [s_colon, split_none n58]
    dsimp only
    rw [s_dot, contains_one, if_pos (decide_eq_true (by show 46 ∈ coreT hour minute second 46 odd; unfold coreT; simp)), hj]
    cases odd <;> rfl
  · rw [s_colon, hj]
    cases odd <;> rfl
theorem mom_ok {mark : Str} {clock v2 v3 v4 : Int} (hk : sg mark = [k]) (hk2 : k = 46 ∨ k = 58) (dh : Dig hour) (dm : Dig minute) (ds : Dig second) (i2 : PySem.intText? hour = some v2) (i3 : PySem.intText? minute = some v3) (i4 : PySem.intText? second = some v4) :
    TOk (momOf hour minute second mark clock) v2 v3 (if clock % 2 = 1 then v4 else 0) := by
  refine ⟨fun yy dd mm tz => ?_⟩
  unfold f19 clock5
  rw [chop_mom hk hk2 dh dm ds, time_core dh dm ds _ hk2]
  dsimp only
  have hs : secOf (secT second k (decide (clock % 2 = 1))) = some (if clock % 2 = 1 then v4 else 0) := by
    unfold secT
    by_cases h : clock % 2 = 1
    · rw [if_pos (by rw [decide_eq_true h]), if_pos h]; exact i4
    · rw [if_neg (by rw [decide_eq_false h]; decide), if_neg h]
      split
      · show PySem.intText? (Str.ofString "0") = _
        decide +kernel
      · rfl
  rw [hs]
  unfold ints5 fin
  rw [i2, i3]
  all_goals (
    cases PySem.intText? yy with
    | none => rfl
    | some y => cases PySem.intText? dd <;> rfl)
theorem mom_gw {mark : Str} {clock : Int} (hk : sg mark = [k]) (hk2 : k = 46 ∨ k = 58) (dh : Dig hour) (dm : Dig minute) (ds : Dig second) (r7 : hour.length ≤ 23) (r8 : minute.length ≤ 23) (r9 : second.length ≤ 23) :
    Gw (momOf hour minute second mark clock) ∧ monthIdx (Txt.lower (momOf hour minute second mark clock)) = none := by
  have es := mom_sg (hour := hour) (minute := minute) (second := second) (clock := clock) hk
  have ch : ∀ c ∈ sg (momOf hour minute second mark clock), (48 ≤ c ∧ c ≤ 57) ∨ c = 46 ∨ c = 58 ∨ c = 44 := by
    intro c hc
    rw [es] at hc
    rcases List.mem_append.mp hc with q | q
    · have := core_ch (k := k) dh dm ds _ c q; omega
    · split at q
      · simp at q; omega
      · cases q
  obtain ⟨c, r, e, hc⟩ := dh.first
  have cm : c ∈ sg (momOf hour minute second mark clock) := by rw [es]; unfold coreT; rw [e]; simp
  have vis : Vis (sg (momOf hour minute second mark clock)) := fun d hd => by have := ch d hd; omega
  have asc := vis_asc vis
  refine ⟨⟨vis, (fun q => by rw [q] at cm; cases cm), mom_len r7 r8 r9 (by rw [len_sg, hk]; simp), ?_, ?_, day_of asc cm (dig_nl hc)⟩, nm_of asc cm (dig_nl hc)⟩
  · intro d s e2
    exact ⟨fun q => by have := ch 43 (by rw [e2]; exact .tail _ q); omega, fun q => by have := ch 45 (by rw [e2]; exact .tail _ q); omega⟩
  · by_cases h : 4 ≤ clock
    · right
      rw [if_pos h] at es
      exact ⟨_, es, fun q => by have := core_ch (k := k) dh dm ds _ 44 q; omega⟩
    · left
      rw [if_neg h, List.append_nil] at es
      rw [es]
      exact fun q => by have := core_ch (k := k) dh dm ds _ 44 q; omega
theorem mom_col {mark : Str} {clock : Int} (hk : sg mark = [58]) (dh : Dig hour) : Col (momOf hour minute second mark clock) := by
  have es := mom_sg (hour := hour) (minute := minute) (second := second) (clock := clock) hk
  unfold coreT at es
  rw [List.append_assoc, List.cons_append] at es
  exact ⟨sg hour, _, es, fun q => by have := dh.all _ q; omega, dh.ne⟩
end
theorem join_all : ∀ m : Fin 2, gwB (Txt.join ([Str.ofString ".", Str.ofString ":"].getD m.val Str.empty) (signs (Str.ofString "1234"))) = true ∧ (timeOf (chop (Txt.join ([Str.ofString ".", Str.ofString ":"].getD m.val Str.empty) (signs (Str.ofString "1234"))))).isNone = true ∧ monthIdx (Txt.lower (Txt.join ([Str.ofString ".", Str.ofString ":"].getD m.val Str.empty) (signs (Str.ofString "1234")))) = none := by decide +kernel
theorem s_cx : sg (Str.ofString ":x") = [58, 120] := by decide +kernel
theorem time_bad {hour mark t : Str} (dh : Dig hour) (hmk : mark = Str.ofString "." ∨ mark = Str.ofString ":") (ht : t ∈ sp3 hour mark) : OtherW t := by
  unfold sp3 at ht
  simp only [List.mem_cons, List.not_mem_nil, or_false] at ht
  rcases ht with rfl | rfl | rfl
  · have h := day_right dh
    exact ⟨h.pl.gw h.day, h.pl.tbad, h.nm⟩
  · have key : ∃ m : Fin 2, mark = [Str.ofString ".", Str.ofString ":"].getD m.val Str.empty := by
      rcases hmk with rfl | rfl
      · exact ⟨0, rfl⟩
      · exact ⟨1, rfl⟩
    obtain ⟨m, rfl⟩ := key
    obtain ⟨h1, h2, h3⟩ := join_all m
    exact ⟨(gw_of h1).1, tbad_of (Option.isNone_iff_eq_none.mp h2), h3⟩
  · obtain ⟨c, r, e, hc⟩ := dh.first
    have es : sg (hour ++ Str.ofString ":x") = sg hour ++ [58, 120] := by rw [sg_append, s_cx]
    have ch : ∀ d ∈ sg (hour ++ Str.ofString ":x"), (48 ≤ d ∧ d ≤ 57) ∨ d = 58 ∨ d = 120 := by
      intro d hd
      rw [es] at hd
      rcases List.mem_append.mp hd with q | q
      · exact .inl (dh.all d q)
      · simp at q; omega
    have cm : c ∈ sg (hour ++ Str.ofString ":x") := by rw [es, e]; simp
    have vis : Vis (sg (hour ++ Str.ofString ":x")) := fun d hd => by have := ch d hd; omega
    have asc := vis_asc vis
    have nk : 44 ∉ sg (hour ++ Str.ofString ":x") := fun q => by have := ch _ q; omega
    have ne : sg (hour ++ Str.ofString ":x") ≠ [] := fun q => by rw [q] at cm; cases cm
    have hl := dh.len
    rw [len_sg] at hl
    refine ⟨⟨vis, ne, by rw [len_sg, es, List.length_append]; simp only [List.length_cons, List.length_nil]; omega, ?_, .inl nk, day_of asc cm (dig_nl hc)⟩, ?_, nm_of asc cm (dig_nl hc)⟩
    · intro d s e2
      exact ⟨fun q => by have := ch 43 (by rw [e2]; exact .tail _ q); omega, fun q => by have := ch 45 (by rw [e2]; exact .tail _ q); omega⟩
    · intro yy dd mm tz
      have sp : Txt.split (hour ++ Str.ofString ":x") ⟨#[58]⟩ = [hour, Str.ofString "x"] := by
        refine split_of (by simp) ?_ ?_
        · intro y hy
          simp at hy
          rcases hy with rfl | rfl
          · exact fun q => by have := dh.all _ q; omega
          · rw [s_x]; simp
        · rw [sg_join_cons, es]
          show _ = sg hour ++ 58 :: sg (Str.ofString "x")
          rw [s_x]
      unfold f19 clock5
      rw [chop_no ne nk]
      have tm : timeOf (hour ++ Str.ofString ":x") = some (hour, Str.ofString "x", .s (Str.ofString "0")) := by
        unfold timeOf; rw [s_colon, sp]
      rw [tm]
      exact ints5_mm (int_bad (c := 120) (by rw [s_x]; intro c hc; simp at hc; omega) (by rw [s_x]; simp) (by omega) (by omega) (by omega) (by omega))
end Mine
end
section
open PySem PySem.W PyProof.Rows
set_option maxRecDepth 100000
set_option maxHeartbeats 4000000
namespace Mine
open PySem.Builtin PySem.Builtin.Str PySem.StrLaws PySem.NumText

theorem part_cases {f : Int} {x : Str} {ls : List Str} (hf2 : f < 12) (hl : ls.length = 3) : (f < 8 ∧ partOf f x ls = [x]) ∨ (¬ f < 8 ∧ partOf f x ls = []) ∨ (¬ f < 8 ∧ ∃ y ∈ ls, partOf f x ls = [y]) := by
  unfold partOf
  by_cases h : f < 8
  · left; rw [if_pos h]; exact ⟨h, rfl⟩
  · right
    rw [if_neg h]
    by_cases h8 : f = 8
    · left; rw [if_pos h8]; exact ⟨h, rfl⟩
    · right
      rw [if_neg h8]
      have hlt : (f - 9).toNat < ls.length := by omega
      refine ⟨h, ls.getD (f - 9).toNat Str.empty, ?_, rfl⟩
      rw [List.getD_eq_getElem?_getD, List.getElem?_eq_getElem hlt]
      exact List.getElem_mem hlt

theorem f4_pair {p q a c d : Str} {k : Int} {r : List Str} (h : monthOf p q = some (a, k)) (ha : chop a = a) : f4 (p :: q :: c :: d :: r) = f16 c a d k (r.headD (Str.ofString "")) := by
  rw [f4_cons]
  unfold f9
  rw [h]
  show f14 c a d k _ = _
  unfold f14
  rw [ha]
theorem f4_rest {p q : Str} : ∀ {rest : List Str}, (∀ x ∈ rest, TBad x) → f4 (p :: q :: rest) = none
  | [], _ => rfl
  | [_], _ => rfl
  | c :: d :: r, h => f4_tbad (h c (.head _)) (h d (.tail _ (.head _)))
theorem same_none {o : Option PRes} (h : o = none) : Same o none := by rw [h]; trivial
theorem fin_same {y a tz : Str} {k hh mi ss v0 v1 off : Int} {g0 g2 : Bool} (ia : PySem.intText? a = if g0 = true then some v0 else none) (iy : PySem.intText? y = if g2 = true then some v1 else none) (ht : (g0 && g2) = true → (tzFin (tzOf (Txt.upper tz))).getD 0 = off) :
    Same (fin y a k tz hh mi ss) (if (g0 && g2) = true then some ⟨yearOf v1, k, v0, hh, mi, ss, some off⟩ else none) := by
  cases g2
  · rw [fin_y iy]; cases g0 <;> trivial
  · cases g0
    · rw [fin_d ia]; trivial
    · have iy' : PySem.intText? y = some v1 := iy
      have ia' : PySem.intText? a = some v0 := ia
      have e : fin y a k tz hh mi ss = some ⟨yearOf v1, k, v0, hh, mi, ss, tzFin (tzOf (Txt.upper tz))⟩ := by
        unfold fin; rw [iy', ia']
      rw [e]
      exact ⟨rfl, rfl, rfl, rfl, rfl, rfl, ht rfl⟩
theorem tz_none : (tzFin (tzOf (Txt.upper (Str.ofString "")))).getD 0 = 0 := by decide +kernel

section
variable {p q a t : Str} {Y Z M : List Str} {k hh mi ss v0 v1 off : Int} {g0 g2 lo : Bool}
/-- the year's part, the zone's part, what follows -/
noncomputable def YearP (Y : List Str) (g2 : Bool) (v1 : Int) : Prop := (∃ y, Y = [y] ∧ YearW y ∧ PySem.intText? y = if g2 = true then some v1 else none) ∨ (g2 = false ∧ Y = [])
noncomputable def ZoneP (Z M : List Str) (off : Int) (free : Prop) : Prop := (∃ z, Z = [z] ∧ ZoneW z off ∧ (free ∨ ZLike z)) ∨ (Z = [] ∧ off = 0 ∧ M = [])
theorem coreA0 (hpq : monthOf p q = some (a, k)) (ha : chop a = a) (ia : PySem.intText? a = if g0 = true then some v0 else none) (ht : TOk t hh mi ss) (hY : YearP Y g2 v1) (hZ : ZoneP Z M off ((g0 && g2) = true)) (hMh : PySem.intText? (M.headD (Str.ofString "")) = none) :
    Same (f4 (p :: q :: (Y ++ (t :: (Z ++ M))))) (if (g0 && g2) = true then some ⟨yearOf v1, k, v0, hh, mi, ss, some off⟩ else none) := by
  rcases hY with ⟨y, rfl, hy, iy⟩ | ⟨rfl, rfl⟩
  · show Same (f4 (p :: q :: y :: t :: (Z ++ M))) _
    rw [f4_pair hpq ha, f16_no hy.yl.nc, f17_y hy.yl, ht.fin]
    refine fin_same ia iy fun _ => ?_
    rcases hZ with ⟨z, rfl, hz, _⟩ | ⟨rfl, rfl, rfl⟩
    · exact hz.tz
    · exact tz_none
  · rw [Bool.and_false]
    refine same_none ?_
    rcases hZ with ⟨z, rfl, hz, hf⟩ | ⟨rfl, rfl, rfl⟩
    · show f4 (p :: q :: t :: z :: M) = none
      rw [f4_pair hpq ha]
      rcases hf with hf | hf
      · rw [Bool.and_false] at hf; cases hf
      · exact f16_tz ht hf hz.tb hMh _ _
    · rfl
theorem coreA2 (hpq : monthOf p q = some (a, k)) (ha : chop a = a) (ia : PySem.intText? a = if g0 = true then some v0 else none) (ht : TOk t hh mi ss) (hc : Col t) (hY : YearP Y g2 v1) (hZ : ZoneP Z M off ((g0 && g2) = true)) (hMh : PySem.intText? (M.headD (Str.ofString "")) = none) :
    Same (f4 (p :: q :: (t :: (Y ++ (Z ++ M))))) (if (g0 && g2) = true then some ⟨yearOf v1, k, v0, hh, mi, ss, some off⟩ else none) := by
  rcases hY with ⟨y, rfl, hy, iy⟩ | ⟨rfl, rfl⟩
  · show Same (f4 (p :: q :: t :: y :: (Z ++ M))) _
    rw [f4_pair hpq ha, f16_yes hc, f17_y hy.yl, ht.fin]
    refine fin_same ia iy fun _ => ?_
    rcases hZ with ⟨z, rfl, hz, _⟩ | ⟨rfl, rfl, rfl⟩
    · exact hz.tz
    · exact tz_none
  · rw [Bool.and_false]
    refine same_none ?_
    rcases hZ with ⟨z, rfl, hz, hf⟩ | ⟨rfl, rfl, rfl⟩
    · show f4 (p :: q :: t :: z :: M) = none
      rw [f4_pair hpq ha]
      rcases hf with hf | hf
      · rw [Bool.and_false] at hf; cases hf
      · exact f16_tz ht hf hz.tb hMh _ _
    · rfl
theorem coreA4 (hpq : monthOf p q = some (a, k)) (ha : chop a = a) (ia : PySem.intText? a = if g0 = true then some v0 else none) (ht : TOk t hh mi ss) (hc : Col t) (hY : YearP Y g2 v1) (hZ : ZoneP Z M off False) (hMh : PySem.intText? (M.headD (Str.ofString "")) = none) :
    Same (f4 (p :: q :: (t :: (Z ++ (Y ++ M))))) (if (g0 && g2) = true then some ⟨yearOf v1, k, v0, hh, mi, ss, some off⟩ else none) := by
  rcases hZ with ⟨z, rfl, hz, hf⟩ | ⟨rfl, rfl, rfl⟩
  · have hzl : ZLike z := hf.resolve_left id
    rcases hY with ⟨y, rfl, hy, iy⟩ | ⟨rfl, rfl⟩
    · show Same (f4 (p :: q :: t :: z :: (y :: M))) _
      rw [f4_pair hpq ha, f16_yes hc, f17_z hzl]
      show Same (f19 y a t k z) _
      rw [ht.fin]
      exact fin_same ia iy fun _ => hz.tz
    · rw [Bool.and_false]
      refine same_none ?_
      show f4 (p :: q :: t :: z :: M) = none
      rw [f4_pair hpq ha]
      exact f16_tz ht hzl hz.tb hMh _ _
  · rcases hY with ⟨y, rfl, hy, iy⟩ | ⟨rfl, rfl⟩
    · show Same (f4 (p :: q :: t :: y :: [])) _
      rw [f4_pair hpq ha, f16_yes hc, f17_y hy.yl, ht.fin]
      exact fin_same ia iy fun _ => tz_none
    · rw [Bool.and_false]
      exact same_none rfl
end

/-- the parts of a date, each right or not -/
structure Parts (form : Nat) (A B Y T Z M : List Str) (g0 g1 g2 g3 : Bool) (v0 v1 mn hh mi ss off : Int) : Prop where
  hA : (∃ a, A = [a] ∧ DayW a ∧ PySem.intText? a = if g0 = true then some v0 else none) ∨ (g0 = false ∧ A = [])
  hB : (∃ b, B = [b] ∧ MonW b ∧ ((g1 = true ∧ ∃ j, monthIdx (Txt.lower b) = some j ∧ monthNum j = mn) ∨ (g1 = false ∧ monthIdx (Txt.lower b) = none))) ∨ (g1 = false ∧ B = [])
  hY : YearP Y g2 v1
  hT : (g3 = true ∧ ∃ t, T = [t] ∧ Gw t ∧ monthIdx (Txt.lower t) = none ∧ TOk t hh mi ss ∧ (2 ≤ form → Col t)) ∨ (g3 = false ∧ ∀ t ∈ T, OtherW t)
  hZ : ZoneP Z M off ((g0 && g1 && g2 && g3) = true ∧ form < 4)
  hM : ∀ x ∈ M, OtherW x
  hMh : PySem.intText? (M.headD (Str.ofString "")) = none

theorem mem_words {ord : List Int} {A B Y T Z : List Str} {x : Str} (h : x ∈ wordsOf ord A B Y T Z) : x ∈ A ∨ x ∈ B ∨ x ∈ Y ∨ x ∈ T ∨ x ∈ Z := by
  unfold wordsOf at h
  obtain ⟨l, hl, hx⟩ := List.mem_flatten.mp h
  obtain ⟨k, _, rfl⟩ := List.mem_map.mp hl
  rcases e : k.toNat with _ | _ | _ | _ | _ | j <;> rw [e] at hx
  · exact .inl hx
  · exact .inr (.inl hx)
  · exact .inr (.inr (.inl hx))
  · exact .inr (.inr (.inr (.inl hx)))
  · exact .inr (.inr (.inr (.inr hx)))
  · cases hx
section
variable {form : Nat} {A B Y T Z M : List Str} {g0 g1 g2 g3 : Bool} {v0 v1 mn hh mi ss off : Int}
theorem Parts.gw (P : Parts form A B Y T Z M g0 g1 g2 g3 v0 v1 mn hh mi ss off) {ord : List Int} : ∀ x ∈ wordsOf ord A B Y T Z ++ M, Gw x := by
  intro x hx
  rcases List.mem_append.mp hx with hx | hx
  · rcases mem_words hx with h | h | h | h | h
    · rcases P.hA with ⟨a, rfl, ha, _⟩ | ⟨_, rfl⟩
      · rw [List.mem_singleton.mp h]; exact ha.pl.gw ha.day
      · cases h
    · rcases P.hB with ⟨b, rfl, hb, _⟩ | ⟨_, rfl⟩
      · rw [List.mem_singleton.mp h]; exact hb.pl.gw hb.day
      · cases h
    · rcases P.hY with ⟨y, rfl, hy, _⟩ | ⟨_, rfl⟩
      · rw [List.mem_singleton.mp h]; exact hy.pl.gw hy.day
      · cases h
    · rcases P.hT with ⟨_, t, rfl, ht, _⟩ | ⟨_, ht⟩
      · rw [List.mem_singleton.mp h]; exact ht
      · exact (ht x h).gw
    · rcases P.hZ with ⟨z, rfl, hz, _⟩ | ⟨rfl, _⟩
      · rw [List.mem_singleton.mp h]; exact hz.gw
      · cases h
  · exact (P.hM x hx).gw
theorem Parts.nm (P : Parts form A B Y T Z M g0 g1 g2 g3 v0 v1 mn hh mi ss off) (h1 : g1 = false) {ord : List Int} : ∀ x ∈ wordsOf ord A B Y T Z ++ M, monthIdx (Txt.lower x) = none := by
  intro x hx
  rcases List.mem_append.mp hx with hx | hx
  · rcases mem_words hx with h | h | h | h | h
    · rcases P.hA with ⟨a, rfl, ha, _⟩ | ⟨_, rfl⟩
      · rw [List.mem_singleton.mp h]; exact ha.nm
      · cases h
    · rcases P.hB with ⟨b, rfl, _, ⟨q, _⟩ | ⟨_, hb⟩⟩ | ⟨_, rfl⟩
      · rw [h1] at q; cases q
      · rw [List.mem_singleton.mp h]; exact hb
      · cases h
    · rcases P.hY with ⟨y, rfl, hy, _⟩ | ⟨_, rfl⟩
      · rw [List.mem_singleton.mp h]; exact hy.nm
      · cases h
    · rcases P.hT with ⟨_, t, rfl, _, ht, _⟩ | ⟨_, ht⟩
      · rw [List.mem_singleton.mp h]; exact ht
      · exact (ht x h).nm
    · rcases P.hZ with ⟨z, rfl, hz, _⟩ | ⟨rfl, _⟩
      · rw [List.mem_singleton.mp h]; exact hz.nm
      · cases h
  · exact (P.hM x hx).nm
theorem Parts.rest (P : Parts form A B Y T Z M g0 g1 g2 g3 v0 v1 mn hh mi ss off) : (∀ x ∈ A, TBad x) ∧ (∀ x ∈ B, TBad x) ∧ (∀ x ∈ Y, TBad x) ∧ (∀ x ∈ Z, TBad x) ∧ (∀ x ∈ M, TBad x) := by
  refine ⟨?_, ?_, ?_, ?_, fun x hx => (P.hM x hx).tb⟩
  · intro x h
    rcases P.hA with ⟨a, rfl, ha, _⟩ | ⟨_, rfl⟩
    · rw [List.mem_singleton.mp h]; exact ha.pl.tbad
    · cases h
  · intro x h
    rcases P.hB with ⟨b, rfl, hb, _⟩ | ⟨_, rfl⟩
    · rw [List.mem_singleton.mp h]; exact hb.pl.tbad
    · cases h
  · intro x h
    rcases P.hY with ⟨y, rfl, hy, _⟩ | ⟨_, rfl⟩
    · rw [List.mem_singleton.mp h]; exact hy.pl.tbad
    · cases h
  · intro x h
    rcases P.hZ with ⟨z, rfl, hz, _⟩ | ⟨rfl, _⟩
    · rw [List.mem_singleton.mp h]; exact hz.tb
    · cases h
theorem sub_tail {x : Str} {r W : List Str} {P : Str → Prop} (e : W = x :: r) (h : ∀ y ∈ W, P y) : ∀ y ∈ r, P y := fun y hy => h y (by rw [e]; exact .tail _ hy)
theorem mem_app {P : Str → Prop} {l r : List Str} (h : ∀ x ∈ l, P x) (h' : ∀ x ∈ r, P x) : ∀ x ∈ l ++ r, P x := fun x hx => (List.mem_append.mp hx).elim (h x) (h' x)
theorem pair_ab {a b : Str} {j : Nat} (hb : monthIdx (Txt.lower b) = some j) : monthOf a b = some (a, monthNum j) := by unfold monthOf; rw [hb]
theorem pair_ba {a b : Str} {j : Nat} (hb : monthIdx (Txt.lower b) = some j) (ha : monthIdx (Txt.lower a) = none) : monthOf b a = some (Txt.lower a, monthNum j) := by unfold monthOf; rw [ha, hb]
theorem core (P : Parts form A B Y T Z M g0 g1 g2 g3 v0 v1 mn hh mi ss off) (hf : form < 6) :
    Same (f4 (wordsOf (ordTab.getD form []) A B Y T Z ++ M)) (if (g0 && g1 && g2 && g3) = true then some ⟨yearOf v1, mn, v0, hh, mi, ss, some off⟩ else none) ∧
    ∀ x r, wordsOf (ordTab.getD form []) A B Y T Z ++ M = x :: r → 44 ∈ sg x → f4 r = none ∧ (g0 && g1 && g2 && g3) = false := by
  obtain ⟨tA, tB, tY, tZ, tM⟩ := P.rest
  cases hg1 : g1
  · have hn := P.nm hg1 (ord := ordTab.getD form [])
    have e : (g0 && false && g2 && g3) = false := by simp
    rw [e]
    exact ⟨same_none (f4_month hn), fun x r e2 _ => ⟨f4_month (sub_tail e2 hn), rfl⟩⟩
  · subst hg1
    rcases P.hB with ⟨b, rfl, hb, ⟨_, j, hj, rfl⟩ | ⟨q, _⟩⟩ | ⟨q, _⟩
    · have nkb : 44 ∉ sg b := hb.pl.no (.inl (by decide))
      -- the head is no time
      have head : ∀ x r, wordsOf (ordTab.getD form []) A [b] Y T Z ++ M = x :: r → 44 ∈ sg x → False := by
        intro x r e hx
        have hxA : x = b ∨ x ∈ A := by
          have hf6 : form = 0 ∨ form = 1 ∨ form = 2 ∨ form = 3 ∨ form = 4 ∨ form = 5 := by omega
          rcases P.hA with ⟨a, rfl, _, _⟩ | ⟨_, rfl⟩
          · rcases hf6 with rfl | rfl | rfl | rfl | rfl | rfl <;> (injection e with e1 _; first | exact .inl e1.symm | exact .inr (by rw [← e1]; exact .head _))
          · rcases hf6 with rfl | rfl | rfl | rfl | rfl | rfl <;> (injection e with e1 _; exact .inl e1.symm)
        rcases hxA with rfl | hxA
        · exact nkb hx
        · rcases P.hA with ⟨a, rfl, ha, _⟩ | ⟨_, rfl⟩
          · rw [List.mem_singleton.mp hxA] at hx; exact ha.pl.no (.inl (by decide)) hx
          · cases hxA
      refine ⟨?_, fun x r e hx => (head x r e hx).elim⟩
      rcases P.hT with ⟨rfl, t, rfl, gt, _, ht, hcol⟩ | ⟨rfl, hT⟩
      · have eg : (g0 && true && g2 && true) = (g0 && g2) := by cases g0 <;> cases g2 <;> rfl
        rw [eg]
        have hZ0 : ZoneP Z M off ((g0 && g2) = true) := by
          rcases P.hZ with ⟨z, e, hz, hf⟩ | h
          · exact .inl ⟨z, e, hz, hf.imp (fun q => by rw [eg] at q; exact q.1) id⟩
          · exact .inr h
        have hf6 : form = 0 ∨ form = 1 ∨ form = 2 ∨ form = 3 ∨ form = 4 ∨ form = 5 := by omega
        rcases P.hA with ⟨a, rfl, ha, ia⟩ | ⟨rfl, rfl⟩
        · have ca : chop a = a := chop_no ha.pl.ne (ha.pl.no (.inl (by decide)))
          have m1 := pair_ab (a := a) hj
          have m2 := pair_ba hj ha.nm
          rw [ha.lo] at m2
          have hZ4 : 4 ≤ form → ZoneP Z M off False := fun h4 => by
            rcases P.hZ with ⟨z, e, hz, hf⟩ | h
            · exact .inl ⟨z, e, hz, hf.imp (fun q => by have := q.2; omega) id⟩
            · exact .inr h
          rcases hf6 with rfl | rfl | rfl | rfl | rfl | rfl
          · have := coreA0 m1 ca ia ht P.hY hZ0 P.hMh
            simpa [wordsOf, ordTab] using this
          · have := coreA0 m2 ca ia ht P.hY hZ0 P.hMh
            simpa [wordsOf, ordTab] using this
          · have := coreA2 m1 ca ia ht (hcol (by decide)) P.hY hZ0 P.hMh
            simpa [wordsOf, ordTab] using this
          · have := coreA2 m2 ca ia ht (hcol (by decide)) P.hY hZ0 P.hMh
            simpa [wordsOf, ordTab] using this
          · have := coreA4 m1 ca ia ht (hcol (by decide)) P.hY (hZ4 (by decide)) P.hMh
            simpa [wordsOf, ordTab] using this
          · have := coreA4 m2 ca ia ht (hcol (by decide)) P.hY (hZ4 (by decide)) P.hMh
            simpa [wordsOf, ordTab] using this
        · rw [Bool.false_and]
          refine same_none ?_
          have z0 : f4 (b :: (Y ++ (t :: (Z ++ M)))) = none := by
            rcases P.hY with ⟨y, rfl, hy, iy⟩ | ⟨rfl, rfl⟩
            · show f4 (b :: y :: t :: (Z ++ M)) = none
              rcases hZ0 with ⟨z, rfl, hz, hf⟩ | ⟨rfl, rfl, rfl⟩
              · show f4 (b :: y :: t :: z :: M) = none
                have hzl : ZLike z := hf.resolve_left (by rw [Bool.false_and]; intro q; cases q)
                rw [f4_cons]
                unfold f9
                rw [pair_ba hj hy.nm]
                exact f16_tz ht hzl hz.tb P.hMh _ _
              · rfl
            · exact f4_rest (mem_app tZ tM)
          have z2 : f4 (b :: t :: (Y ++ (Z ++ M))) = none := f4_rest (mem_app tY (mem_app tZ tM))
          have z4 : f4 (b :: t :: (Z ++ (Y ++ M))) = none := f4_rest (mem_app tZ (mem_app tY tM))
          rcases hf6 with rfl | rfl | rfl | rfl | rfl | rfl
          · simpa [wordsOf, ordTab] using z0
          · simpa [wordsOf, ordTab] using z0
          · simpa [wordsOf, ordTab] using z2
          · simpa [wordsOf, ordTab] using z2
          · simpa [wordsOf, ordTab] using z4
          · simpa [wordsOf, ordTab] using z4
      · rw [Bool.and_false]
        refine same_none (f4_all ?_)
        refine mem_app ?_ tM
        intro x hx
        rcases mem_words hx with h | h | h | h | h
        · exact tA x h
        · exact tB x h
        · exact tY x h
        · exact (hT x h).tb
        · exact tZ x h
    · cases q
    · cases q
end
end Mine
end
section
open PySem PySem.W PyProof.Rows
set_option maxRecDepth 100000
set_option maxHeartbeats 4000000
namespace Mine
open PySem.Builtin PySem.Builtin.Str PySem.StrLaws PySem.NumText

theorem words_len {A B Y T Z : List Str} (hA : A.length ≤ 1) (hB : B.length ≤ 1) (hY : Y.length ≤ 1) (hT : T.length ≤ 1) (hZ : Z.length ≤ 1) (ord : List Int) : (wordsOf ord A B Y T Z).length ≤ ord.length := by
  induction ord with
  | nil => exact Nat.le_refl _
  | cons k r ih =>
    have e : wordsOf (k :: r) A B Y T Z = [A, B, Y, T, Z].getD k.toNat [] ++ wordsOf r A B Y T Z := rfl
    rw [e, List.length_append, List.length_cons]
    have : ([A, B, Y, T, Z].getD k.toNat []).length ≤ 1 := by
      rcases k.toNat with _ | _ | _ | _ | _ | j
      · exact hA
      · exact hB
      · exact hY
      · exact hT
      · exact hZ
      · exact Nat.zero_le _
    omega
theorem part_len (f : Int) (x : Str) (ls : List Str) : (partOf f x ls).length ≤ 1 := by
  unfold partOf; split
  · exact Nat.le_refl _
  · split
    · exact Nat.zero_le _
    · exact Nat.le_refl _
theorem ord_len (j : Nat) : (ordTab.getD j []).length ≤ 5 := by
  rcases j with _ | _ | _ | _ | _ | _ | j
  · exact Nat.le_refl _
  · exact Nat.le_refl _
  · exact Nat.le_refl _
  · exact Nat.le_refl _
  · exact Nat.le_refl _
  · exact Nat.le_refl _
  · exact Nat.zero_le _
theorem wk_len (week : Int) (W : List Str) : (wkW week W).length ≤ W.length + 1 := by
  unfold wkW
  split
  · rcases W with _ | ⟨x, r⟩
    · exact Nat.zero_le _
    · simp
  · split
    · simp
    · exact Nat.le_succ _
theorem year_eq {v1 : Int} : yearOf v1 = v1 + (if v1 > 99 then 0 else if v1 > 68 then 1900 else 2000) := by
  unfold yearOf
  by_cases h1 : v1 > 99
  · rw [if_neg (by omega), if_pos h1]; omega
  · rw [if_pos (by omega), if_neg h1]
    by_cases h2 : v1 > 68
    · rw [if_pos h2, if_pos h2]
    · rw [if_neg h2, if_neg h2]
noncomputable def dMore (d : Draw) (Z : List Str) : List Str := if Z = [] then [] else moreTab.take d.more.toNat
theorem zone_parts {zone v5 minutes cas : Int} {bare : Bool} {n : Nat} {free : Prop} (h0 : 0 ≤ zone) (h1 : zone < 5) (hh : 0 ≤ v5) (hh2 : v5 < 100000000000000000000) (hm : 0 ≤ minutes) (hm2 : minutes < 100) (hc : 0 ≤ cas) (hc2 : cas < 4) (hfree : bare = true → free) :
    ZoneP (zTxt zone v5 minutes cas bare).toList (if (zTxt zone v5 minutes cas bare).toList = [] then [] else moreTab.take n) (zOff zone v5 minutes) free := by
  unfold zTxt zOff
  by_cases z0 : zone = 0
  · rw [if_pos z0, if_pos z0]
    exact .inr ⟨rfl, rfl, rfl⟩
  · rw [if_neg z0, if_neg z0]
    by_cases z1 : zone = 1
    · rw [if_pos z1, if_pos z1]
      obtain ⟨h, hl⟩ := zone_name (hours := v5) hc hc2
      exact .inl ⟨_, rfl, h, .inr hl⟩
    · rw [if_neg z1, if_neg z1]
      obtain ⟨h, hl⟩ := zone_num (way := zone) (bare := bare) (by omega) hh hh2 hm hm2
      refine .inl ⟨_, rfl, h, ?_⟩
      cases bare
      · exact .inr (hl rfl)
      · exact .inl (hfree rfl)
theorem mark_sg (clock form : Int) : ∃ k, sg (markOf clock form) = [k] ∧ (k = 46 ∨ k = 58) ∧ (2 ≤ form → k = 58) := by
  unfold markOf
  by_cases h : 2 ≤ clock % 4 ∧ form < 2
  · rw [if_pos h]; exact ⟨46, by decide +kernel, .inl rfl, fun q => by omega⟩
  · rw [if_neg h]; exact ⟨58, by decide +kernel, .inr rfl, fun _ => rfl⟩
theorem mark_or (clock form : Int) : markOf clock form = Str.ofString "." ∨ markOf clock form = Str.ofString ":" := by
  unfold markOf; split
  · exact .inl rfl
  · exact .inr rfl
theorem parts_of (d : Draw) (h : d.Ok) : Parts d.form.toNat (partOf d.f0 (dStr d.zeros d.v0) (sp0 (dStr d.zeros d.v0))) (partOf d.f1 (caseOf (nameTab.getD d.month.toNat Str.empty) d.cas) (sp1 d.month)) (partOf d.f2 (dStr d.zeros d.v1) (sp2 (dStr d.zeros d.v1)))
    (partOf d.f3 (momOf (dStr d.zeros d.v2) (dStr d.zeros d.v3) (dStr d.zeros d.v4) (markOf d.clock d.form) d.clock) (sp3 (dStr d.zeros d.v2) (markOf d.clock d.form)))
    (zTxt d.zone d.v5 d.minutes d.cas (goodOf d.f0 d.f1 d.f2 d.f3 && decide (d.form < 4))).toList (dMore d (zTxt d.zone d.v5 d.minutes d.cas (goodOf d.f0 d.f1 d.f2 d.f3 && decide (d.form < 4))).toList)
    (decide (d.f0 < 8)) (decide (d.f1 < 8)) (decide (d.f2 < 8)) (decide (d.f3 < 8)) d.v0 d.v1 (d.month % 12 + 1) d.v2 d.v3 (if d.clock % 2 = 1 then d.v4 else 0) (zOff d.zone d.v5 d.minutes) := by
  obtain ⟨D0, I0⟩ := dStr_dig h.zerosa h.zerosb h.v0a h.v0b
  obtain ⟨D1, I1⟩ := dStr_dig h.zerosa h.zerosb h.v1a h.v1b
  obtain ⟨D2, I2⟩ := dStr_dig h.zerosa h.zerosb h.v2a h.v2b
  obtain ⟨D3, I3⟩ := dStr_dig h.zerosa h.zerosb h.v3a h.v3b
  obtain ⟨D4, I4⟩ := dStr_dig h.zerosa h.zerosb h.v4a h.v4b
  have L2 := dStr_len h.v2a h.v2b h.zerosa h.zerosb
  have L3 := dStr_len h.v3a h.v3b h.zerosa h.zerosb
  have L4 := dStr_len h.v4a h.v4b h.zerosa h.zerosb
  obtain ⟨k, mk, mk2, mk3⟩ := mark_sg d.clock d.form
  have dm : ∀ Z : List Str, (∀ x ∈ dMore d Z, OtherW x) ∧ PySem.intText? ((dMore d Z).headD (Str.ofString "")) = none := by
    intro Z
    unfold dMore
    split
    · exact ⟨(fun x hx => by cases hx), more_head 0⟩
    · exact ⟨more_w, more_head _⟩
  refine ⟨?_, ?_, ?_, ?_, ?_, (dm _).1, (dm _).2⟩
  · rcases part_cases (x := dStr d.zeros d.v0) (ls := sp0 (dStr d.zeros d.v0)) h.f0b rfl with ⟨q, e⟩ | ⟨q, e⟩ | ⟨q, a, ha, e⟩
    · exact .inl ⟨_, e, day_right D0, by rw [decide_eq_true q]; exact I0⟩
    · exact .inr ⟨decide_eq_false q, e⟩
    · obtain ⟨w1, w2⟩ := day_bad D0 ha
      exact .inl ⟨a, e, w1, by rw [decide_eq_false q]; exact w2⟩
  · rcases part_cases (x := caseOf (nameTab.getD d.month.toNat Str.empty) d.cas) (ls := sp1 d.month) h.f1b rfl with ⟨q, e⟩ | ⟨q, e⟩ | ⟨q, b, hb, e⟩
    · obtain ⟨w1, w2⟩ := mon_right h.montha h.monthb h.casa h.casb
      exact .inl ⟨_, e, w1, .inl ⟨decide_eq_true q, w2⟩⟩
    · exact .inr ⟨decide_eq_false q, e⟩
    · obtain ⟨w1, w2⟩ := mon_bad h.montha h.monthb hb
      exact .inl ⟨b, e, w1, .inr ⟨decide_eq_false q, w2⟩⟩
  · rcases part_cases (x := dStr d.zeros d.v1) (ls := sp2 (dStr d.zeros d.v1)) h.f2b rfl with ⟨q, e⟩ | ⟨q, e⟩ | ⟨q, y, hy, e⟩
    · exact .inl ⟨_, e, year_right D1, by rw [decide_eq_true q]; exact I1⟩
    · exact .inr ⟨decide_eq_false q, e⟩
    · obtain ⟨w1, w2⟩ := year_bad D1 hy
      exact .inl ⟨y, e, w1, by rw [decide_eq_false q]; exact w2⟩
  · rcases part_cases (x := momOf (dStr d.zeros d.v2) (dStr d.zeros d.v3) (dStr d.zeros d.v4) (markOf d.clock d.form) d.clock) (ls := sp3 (dStr d.zeros d.v2) (markOf d.clock d.form)) h.f3b rfl with ⟨q, e⟩ | ⟨q, e⟩ | ⟨q, t, ht, e⟩
    · obtain ⟨w1, w2⟩ := mom_gw (clock := d.clock) mk mk2 D2 D3 D4 L2 L3 L4
      refine .inl ⟨decide_eq_true q, _, e, w1, w2, mom_ok mk mk2 D2 D3 D4 I2 I3 I4, fun hf => ?_⟩
      have h58 := mk3 (by have := h.forma; omega)
      subst h58
      exact mom_col mk D2
    · refine .inr ⟨decide_eq_false q, ?_⟩
      rw [e]; intro t ht; cases ht
    · refine .inr ⟨decide_eq_false q, ?_⟩
      rw [e]; intro t' ht'
      rw [List.mem_singleton.mp ht']
      exact time_bad D2 (mark_or _ _) ht
  · refine zone_parts (n := d.more.toNat) h.zonea h.zoneb h.v5a h.v5b h.minutesa h.minutesb h.casa h.casb ?_
    intro hb
    obtain ⟨b1, b2⟩ := Bool.and_eq_true_iff.mp hb
    have b2 := of_decide_eq_true b2
    exact ⟨b1, by have := h.forma; omega⟩
theorem pureLaw : ∀ d : Draw, d.Ok → (dTxt d).length ≤ 2000 ∧ Fit2 (Txt.words (dTxt d)) ∧ Same (f2 (Txt.words (dTxt d))) (dDue d) := by
  intro d h
  have P := parts_of d h
  have hgw := P.gw (ord := ordTab.getD d.form.toNat [])
  have hcore := core P (by have := h.formb; have := h.forma; omega)
  have hdw : dWords d = wkW d.week (wordsOf (ordTab.getD d.form.toNat []) (partOf d.f0 (dStr d.zeros d.v0) (sp0 (dStr d.zeros d.v0))) (partOf d.f1 (caseOf (nameTab.getD d.month.toNat Str.empty) d.cas) (sp1 d.month)) (partOf d.f2 (dStr d.zeros d.v1) (sp2 (dStr d.zeros d.v1)))
    (partOf d.f3 (momOf (dStr d.zeros d.v2) (dStr d.zeros d.v3) (dStr d.zeros d.v4) (markOf d.clock d.form) d.clock) (sp3 (dStr d.zeros d.v2) (markOf d.clock d.form)))
    (zTxt d.zone d.v5 d.minutes d.cas (goodOf d.f0 d.f1 d.f2 d.f3 && decide (d.form < 4))).toList ++ dMore d (zTxt d.zone d.v5 d.minutes d.cas (goodOf d.f0 d.f1 d.f2 d.f3 && decide (d.form < 4))).toList) := rfl
  have hlen : (wordsOf (ordTab.getD d.form.toNat []) (partOf d.f0 (dStr d.zeros d.v0) (sp0 (dStr d.zeros d.v0))) (partOf d.f1 (caseOf (nameTab.getD d.month.toNat Str.empty) d.cas) (sp1 d.month)) (partOf d.f2 (dStr d.zeros d.v1) (sp2 (dStr d.zeros d.v1)))
    (partOf d.f3 (momOf (dStr d.zeros d.v2) (dStr d.zeros d.v3) (dStr d.zeros d.v4) (markOf d.clock d.form) d.clock) (sp3 (dStr d.zeros d.v2) (markOf d.clock d.form)))
    (zTxt d.zone d.v5 d.minutes d.cas (goodOf d.f0 d.f1 d.f2 d.f3 && decide (d.form < 4))).toList ++ dMore d (zTxt d.zone d.v5 d.minutes d.cas (goodOf d.f0 d.f1 d.f2 d.f3 && decide (d.form < 4))).toList).length ≤ 7 := by
    rw [List.length_append]
    have l1 := words_len (part_len d.f0 (dStr d.zeros d.v0) (sp0 (dStr d.zeros d.v0))) (part_len d.f1 (caseOf (nameTab.getD d.month.toNat Str.empty) d.cas) (sp1 d.month)) (part_len d.f2 (dStr d.zeros d.v1) (sp2 (dStr d.zeros d.v1))) (part_len d.f3 (momOf (dStr d.zeros d.v2) (dStr d.zeros d.v3) (dStr d.zeros d.v4) (markOf d.clock d.form) d.clock) (sp3 (dStr d.zeros d.v2) (markOf d.clock d.form)))
      (show (zTxt d.zone d.v5 d.minutes d.cas (goodOf d.f0 d.f1 d.f2 d.f3 && decide (d.form < 4))).toList.length ≤ 1 by cases zTxt d.zone d.v5 d.minutes d.cas (goodOf d.f0 d.f1 d.f2 d.f3 && decide (d.form < 4)) <;> simp) (ordTab.getD d.form.toNat [])
    have l2 := ord_len d.form.toNat
    have l3 : ∀ Z, (dMore d Z).length ≤ 2 := by
      intro Z
      unfold dMore
      split
      · exact Nat.zero_le _
      · rw [List.length_take]; exact Nat.min_le_right _ _
    have := l3 (zTxt d.zone d.v5 d.minutes d.cas (goodOf d.f0 d.f1 d.f2 d.f3 && decide (d.form < 4))).toList
    omega
  generalize wordsOf (ordTab.getD d.form.toNat []) (partOf d.f0 (dStr d.zeros d.v0) (sp0 (dStr d.zeros d.v0))) (partOf d.f1 (caseOf (nameTab.getD d.month.toNat Str.empty) d.cas) (sp1 d.month)) (partOf d.f2 (dStr d.zeros d.v1) (sp2 (dStr d.zeros d.v1)))
    (partOf d.f3 (momOf (dStr d.zeros d.v2) (dStr d.zeros d.v3) (dStr d.zeros d.v4) (markOf d.clock d.form) d.clock) (sp3 (dStr d.zeros d.v2) (markOf d.clock d.form)))
    (zTxt d.zone d.v5 d.minutes d.cas (goodOf d.f0 d.f1 d.f2 d.f3 && decide (d.form < 4))).toList ++ dMore d (zTxt d.zone d.v5 d.minutes d.cas (goodOf d.f0 d.f1 d.f2 d.f3 && decide (d.form < 4))).toList = W at *
  have ww := week_words h.weeka h.weekb hgw
  have hw : Txt.words (dTxt d) = wkW d.week W := by
    unfold dTxt
    rw [hdw]
    exact words_txt h.whitea ww
  have hdue : dDue d = if (decide (d.f0 < 8) && decide (d.f1 < 8) && decide (d.f2 < 8) && decide (d.f3 < 8)) = true then some ⟨yearOf d.v1, d.month % 12 + 1, d.v0, d.v2, d.v3, if d.clock % 2 = 1 then d.v4 else 0, some (zOff d.zone d.v5 d.minutes)⟩ else none := by
    unfold dDue dueOf goodOf
    rw [year_eq]
  refine ⟨?_, ?_, ?_⟩
  · unfold dTxt
    rw [hdw]
    refine txt_len h.whitea (fun x hx => (ww x hx).2.2) ?_
    have := wk_len d.week W
    omega
  · rw [hw]; exact week_fit h.weeka h.weekb hgw (by omega)
  · rw [hw, hdue]
    rcases f2_week h.weeka h.weekb hgw with e | ⟨x, r, e1, e2, e3⟩
    · rw [e]; exact hcore.1
    · obtain ⟨n1, n2⟩ := hcore.2 x r e1 e2
      rw [e3, n1, n2]
      trivial
end Mine
end
section
open PySem PySem.W PyProof.Rows
set_option maxRecDepth 100000
set_option maxHeartbeats 8000000
namespace Mine
theorem whole.tw7060254191140782176 : True := trivial
theorem whole.tw3373478461565254290 : True := trivial
theorem whole.tw2506605637442964219 : True := trivial
theorem whole.tw8398797258006769423 : True := trivial
theorem whole.tw11326002143255320066 : True := trivial
theorem whole.tw4918820536221260690 : True := trivial
theorem whole.tw10354518954362131899 : True := trivial
theorem whole.tw16731332320388202666 : True := trivial
theorem whole.tw1640677438868554593 : True := trivial
theorem whole.tw623554338988979289 : True := trivial
theorem whole.tw17221409760620009834 : True := trivial
theorem whole.tw14890280090424698046 : True := trivial
theorem whole.tw3150075250938504248 : True := trivial
theorem whole.tw13151456211161260105 : True := trivial
theorem whole.tw4234479992401935053 : True := trivial
theorem whole.tw5477020428343274486 : True := trivial
theorem whole.tw1329479340354266572 : True := trivial
theorem whole.tw11690859581915506653 : True := trivial
theorem whole.tw1469139166737108290 : True := trivial
theorem whole.tw9235561108164731721 : True := trivial
set_option Elab.async true in
theorem whole : PySem.Challenge.rw_dp0021_01.Holds := by
  w_on
  o_law
  o_head (kHook topK.heap_1 [2, 3, 6, 15, 16, 17, 18, 20, 21, 23, 24, 25, 27, 28, 30, 31, 32, 34, 35, 37, 38, 39, 41, 42, 44, 45, 46, 48, 49, 51, 52, 53, 55, 56, 58, 59, 60, 63, 64, 65, 67, 68, 70, 71] (fun _ => by kernel_rfl))
  (case hw => w_witness2)
  exact walkAll pureLaw (by rfl)
end Mine
end
theorem PySem.Challenge.cw_dp0021_01_holds : PySem.Challenge.rw_dp0021_01.Holds := by
  exact Mine.whole

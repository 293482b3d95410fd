import PyProof.Rows.All
import Wide.All
import OpenK.AllK
import Wide.FinOn
import Lean
import PySem.Challenge.RW_mq0106_01
set_option Elab.async false
set_option maxRecDepth 100000
set_option maxHeartbeats 8000000
set_option linter.all false
namespace Mine
open PySem PySem.W PyProof.Rows PySem.Calls
-- Q1
section
open PySem PySem.W PyProof.Rows PySem.Calls
open PySem.Sem (wp)
/-- a goal hidden behind a letter while a fact is taken apart: no copy of it at each part -/
theorem cps {G : Prop} (h : ∀ P : Prop, (G → P) → P) : G := h G id
theorem all_cons {α : Type} {P : α → Prop} {a : α} {l : List α} (h : P a) (t : ∀ c ∈ l, P c) : ∀ c ∈ a :: l, P c := fun c m => by
  rcases List.mem_cons.mp m with e | e
  · exact e ▸ h
  · exact t c e
/-- the claim's caller stands further down -/
noncomputable def Called (Γ : Ctx) : Prop := (Γ.below.any fun x => x.1.isCaller) = true
noncomputable def wpC {α : Type} (M : Model) (A : Around) (t : Sem α) (Q : α → Shared → Prop) (E : Value → Shared → Prop) (s : Shared) : Prop :=
  ∀ Γ p, Γ.In A → Called Γ → wp M Γ t (fun a _ s' => Q a s') (fun e _ s' => E e s') p s
noncomputable def codeC (M : Model) (A : Around) (c : Code) (R : Result → Shared → Prop) (s : Shared) : Prop :=
  ∀ Γ p, Γ.code = c → Γ.Below A → Called Γ → wpCode M Γ R p s
section
variable {α β : Type} {M : Model} {A : Around} {E : Value → Shared → Prop} {s : Shared}
theorem c_any {t : Sem α} {Q : α → Shared → Prop} (h : wpAny M A t Q E s) : wpC M A t Q E s := fun Γ p hΓ _ => h Γ p hΓ
theorem cc_any {c : Code} {R : Result → Shared → Prop} (h : codeAny M A c R s) : codeC M A c R s := fun Γ p hc hΓ _ => h Γ p hc hΓ
theorem c_mono {t : Sem α} {Q Q' : α → Shared → Prop} {E' : Value → Shared → Prop} (h : wpC M A t Q E s) (hQ : ∀ a s, Q a s → Q' a s) (hE : ∀ e s, E e s → E' e s) : wpC M A t Q' E' s :=
  fun Γ p hΓ hc => Sem.wp_mono M Γ t (fun a _ s => hQ a s) (fun e _ s => hE e s) p s (h Γ p hΓ hc)
theorem cc_mono {c : Code} {R R' : Result → Shared → Prop} (h : codeC M A c R s) (hR : ∀ r s, R r s → R' r s) : codeC M A c R' s :=
  fun Γ p hc hΓ hh => wpCode_mono hR (h Γ p hc hΓ hh)
theorem c_pure {a : α} {Q : α → Shared → Prop} (h : Q a s) : wpC M A (pure a) Q E s := c_any (wpAny_pure h)
theorem c_bind {m : Sem α} {f : α → Sem β} {Q : β → Shared → Prop} (h : wpC M A m (fun a s' => wpC M A (f a) Q E s') E s) : wpC M A (m >>= f) Q E s := fun Γ p hΓ hc => by
  rw [Sem.wp_bind']
  exact Sem.wp_mono M Γ m (fun a p' s' h' => h' Γ p' hΓ hc) (fun _ _ _ h' => h') p s (h Γ p hΓ hc)
theorem c_onRaise {m : Sem α} {k : Value → Sem Unit} {Q : α → Shared → Prop}
    (h : wpC M A m Q (fun e s' => wpAny M A (k e) (fun _ s'' => E e s'') E s') s) : wpC M A (m.onRaise k) Q E s := fun Γ p hΓ hc => by
  rw [Sem.wp_onRaise]
  exact Sem.wp_mono M Γ m (fun _ _ _ h' => h') (fun e p' s' h' => h' Γ p' hΓ) p s (h Γ p hΓ hc)
theorem c_attempt {m : Sem α} {Q : Except Value α → Shared → Prop} (h : wpC M A m (fun a => Q (.ok a)) (fun e => Q (.error e)) s) : wpC M A m.attempt Q E s :=
  fun Γ p hΓ hc => by rw [Sem.wp_attempt]; exact h Γ p hΓ hc
theorem c_holding {vs : List Value} {m : Sem α} {Q : α → Shared → Prop} (h : wpC M A m Q E s) : wpC M A (holding vs m) Q E s :=
  fun Γ p hΓ hc => by rw [Sem.wp_holding]; exact h Γ p hΓ hc
theorem c_keep {vs : List Value} {m : Sem α} {Q : α → Shared → Prop} (h : wpC M A m Q E s) : wpC M A (m.keep vs) Q E s :=
  fun Γ p hΓ hc => by rw [Sem.wp_keep]; exact h Γ p hΓ hc
theorem c_operating {vs : List Value} {m : Sem Value} {Q : Value → Shared → Prop} (h : wpC M A m Q E s) : wpC M A (operate vs m) Q E s :=
  fun Γ p hΓ hc => by rw [Sem.wp_operate]; exact h Γ p hΓ hc
theorem called_enter {Γ : Ctx} {c : Code} {h : Option Value} {p : Pos} (hc : Called Γ) : Called (Γ.enter c h p) := by
  unfold Called at hc ⊢
  simp only [Ctx.enter, List.any_cons, hc, Bool.or_true]
theorem called_top {Γ : Ctx} {c : Code} {h : Option Value} {p : Pos} (hc : Γ.code.isCaller = true) : Called (Γ.enter c h p) := by
  unfold Called
  simp only [Ctx.enter, List.any_cons, hc, Bool.true_or]
theorem c_run {c : Code} {h : Option Value} {Q : Flow → Shared → Prop}
    (hc : codeC M (A.mark h) c (fun r s' => match r with | .ok f => Q f s' | .error e => E e s') s) (hnb : h ≠ some byPass := by intro x; cases x) : wpC M A (run c h) Q E s :=
  fun Γ p hΓ hh => by rw [Sem.wp_run]; exact hc _ p rfl (hΓ.enter c h p hnb) (called_enter hh)
theorem c_runValue {c : Code} {Q : Value → Shared → Prop}
    (hc : codeC M A c (fun r s' => match r with | .ok (.ret v) => Q v s' | .ok _ => False | .error e => E e s') s) : wpC M A (runValue c) Q E s :=
  fun Γ p hΓ hh => by rw [Sem.wp_runValue]; exact hc _ p rfl (hΓ.enter c none p (by intro x; cases x)) (called_enter hh)
theorem c_call {f : Value} {pos : List Value} {kw : List (Str × Value)} {Q : Value → Shared → Prop}
    (hc : codeC M A (.call f ⟨pos, kw⟩) (fun r s' => match r with | .ok (.ret v) => Q v s' | .ok _ => False | .error e => E e s') s) : wpC M A (call f pos kw) Q E s := c_runValue hc
theorem cc_of_tree {c : Code} {R : Result → Shared → Prop}
    (h : wpC M (A.under c) (M.den c) (fun fin s' => match fin with | .done f => R (.ok f) s' | .again c' => c'.quiet = true ∧ codeC M A c' R s') (fun e s' => R (.error e) s') s) : codeC M A c R s := fun Γ p hc hΓ hh => by
  rw [wpCode_iff_wp, hc]
  refine Sem.wp_mono M Γ _ (fun fin p' s' h' => ?_) (fun _ _ _ h' => h') p s (h Γ p (hc ▸ hΓ.in) hh)
  cases fin with
  | done f => exact h'
  | again c' => exact ⟨h'.1, h'.2 (Γ.goto c') p' rfl (hΓ.goto c') hh⟩
theorem c_mark {e : Value} {own : List String} {Q : Unit → Shared → Prop} (h : Q () s) : wpC M A (markTheRefusal own e) Q E s := fun Γ p _ hh => by
  unfold markTheRefusal
  rw [Sem.wp_bind']
  show wp M Γ (if pythonCodeMadeTheCall own (((Γ.code, p) :: Γ.below).map (·.1)) = true then _ else _) _ _ p s
  have hp : pythonCodeMadeTheCall own (((Γ.code, p) :: Γ.below).map (·.1)) = false := by
    unfold pythonCodeMadeTheCall
    have hk : ((((Γ.code, p) :: Γ.below).map (·.1)).any Code.isCaller) = true := by
      rw [List.any_map, List.any_cons]
      have hh' : (Γ.below.any (Code.isCaller ∘ fun x => x.1)) = true := hh
      rw [hh', Bool.or_true]
    show ((!((((Γ.code, p) :: Γ.below).map (·.1)).any Code.isCaller)) && _ && _) = false
    rw [hk]; rfl
  rw [hp, if_neg (by decide)]
  exact h
theorem c_runOwn {env : Env} {c : Code} {h : Option Value} {Q : Flow → Shared → Prop}
    (hc : codeC M (A.mark h) c (fun r s' => match r with | .ok f => Q f s' | .error e => cameBackBy M A env E e s') s) (hnb : h ≠ some byPass := by intro x; cases x) : wpC M A (runOwn c env h) Q E s := by
  unfold runOwn
  exact c_onRaise (c_run hc hnb)
theorem c_noted {env : Env} {m : Sem α} {Q : α → Shared → Prop} (h : wpC M A m Q (notedBy M A env E) s) : wpC M A (m.onRaise fun x => do noteFrame x env; theTreesLotGoes x) Q E s :=
  c_onRaise (c_mono h (fun _ _ q => q) fun _ _ hx => wpAny_bind (wpAny_mono hx (fun _ _ e => wpAny_theTreesLotGoes e) fun _ _ e => e))
theorem cc_loop {c : Code} {R : Result → Shared → Prop} (hq : c.quiet = true) (I : Nat → Shared → Prop)
    (turn : ∀ n s, I n s → wpC M (A.under c) (M.den c)
      (fun fin s' => match fin with
        | .done f => R (.ok f) s'
        | .again c' => (c' = c ∧ ∃ m, m < n ∧ I m s') ∨ (c'.quiet = true ∧ codeC M A c' R s')) (fun e s' => R (.error e) s') s)
    (n : Nat) (h : I n s) : codeC M A c R s := by
  induction n using Nat.strongRecOn generalizing s with
  | ind n ih =>
    refine cc_of_tree (c_mono (turn n s h) (fun fin s' hf => ?_) fun _ _ h' => h')
    cases fin with
    | done f => exact hf
    | again c' =>
      rcases hf with ⟨rfl, m, hm, hI⟩ | hf
      · exact ⟨hq, ih m hm hI⟩
      · exact hf
end
section
variable {prog : Program} {w : World} {A : Around} {E : Value → Shared → Prop} {s : Shared} {env : Env}
theorem cc_block {stmts : List Stmt} {R : Result → Shared → Prop}
    (h : wpC (model prog w) A (execs stmts env) (fun f s' => R (.ok f) s') (notedBy (model prog w) A env fun e s' => R (.error e) s') s) : codeC (model prog w) A (.block stmts env) R s := by
  refine cc_of_tree ?_
  show wpC _ _ (do return Fin.done (← (execs stmts env).onRaise (fun x => do noteFrame x env; theTreesLotGoes x))) _ _ s
  exact c_bind (c_noted (c_mono h (fun f s' h' => c_pure h') fun _ _ h' => h'))
theorem cc_forLoop {R : Result → Shared → Prop} {target it body orelse} (I : Nat → Shared → Prop)
    (turn : ∀ n s, I n s → wpAny (model prog w) A (pyNext it) (fun r s₁ => match r with
      | none => wpC (model prog w) A (execs orelse env) (fun f s₃ => R (.ok f) s₃) (notedBy (model prog w) A env fun e s' => R (.error e) s') s₁
      | some v => wpAny (model prog w) A (assign target env v) (fun _ s₂ => wpC (model prog w) A (execs body env) (fun f s₃ => match f with
          | .next | .cont => ∃ m, m < n ∧ I m s₃
          | .brk => R (.ok .next) s₃
          | .ret v => R (.ok (.ret v)) s₃) (notedBy (model prog w) A env fun e s' => R (.error e) s') s₂) (notedBy (model prog w) A env fun e s' => R (.error e) s') s₁) (notedBy (model prog w) A env fun e s' => R (.error e) s') s)
    (n : Nat) (h : I n s) (ht : ∀ v, letOwnedTupleGo target it v = pure () := by intro _; rfl) : codeC (model prog w) A (.forLoop target it body orelse env) R s := by
  refine cc_loop rfl I (fun n s hI => ?_) n h
  show wpC _ _ ((forTurn target it body orelse env).onRaise (fun x => do noteFrame x env; theTreesLotGoes x)) _ _ s
  refine c_noted ?_
  simp only [forTurn]
  refine c_bind (c_any (wpAny_standAt (c_bind (c_onRaise (c_mono (c_any (turn n s hI)) (fun r s₁ h₁ => ?_) fun _ _ h' => wpAny_standAt h')))))
  cases r with
  | none => exact c_pure (.inr ⟨rfl, cc_block h₁⟩)
  | some v =>
    refine c_bind (c_any (wpAny_of_eq (ht v) ?_))
    refine c_bind (c_mono (c_any h₁) (fun _ s₂ h₂ => c_bind (c_mono h₂ (fun f s₃ h₃ => ?_) fun _ _ h' => h')) fun _ _ h' => h')
    cases f with
    | next => exact c_pure (.inl ⟨rfl, h₃⟩)
    | cont => exact c_pure (.inl ⟨rfl, h₃⟩)
    | brk => exact c_pure h₃
    | ret v => exact c_pure h₃
theorem c_For {target iter body orelse pos} {Q : Flow → Shared → Prop} {M : Model}
    (h : wpAny M A (eval iter env) (fun x s₁ => wpAny M A (pyIter x) (fun it s₂ =>
      codeC M A (.forLoop target it body orelse env) (fun r s' => match r with | .ok f => Q f s' | .error e => cameBackBy M A env E e s') s₂) E s₁) E s)
    (hs : ∀ x, foldedSetIterable iter env x = pure x := by intro _; rfl) :
    wpC M A (exec (.For target iter body orelse pos) env) Q E s := by
  rw [exec_For]
  exact c_bind (c_any (wpAny_standAt (c_bind (c_mono (c_any h) (fun x s₁ h₁ => c_bind (c_any (wpAny_of_eq (hs x) (c_bind (c_any (wpAny_standAt (c_bind (c_holding
    (c_mono (c_any h₁) (fun it s₂ h₂ => c_runOwn h₂) fun _ _ h' => h'))))))))) fun _ _ h' => h'))))
theorem c_Try {body orelse : List Stmt} {h₀ : ExceptHandler} {hs : List ExceptHandler} {pos : Pos} {Q : Flow → Shared → Prop}
    (h : wpC (model prog w) A (execs body env) (fun f s₁ => match f with | .next => wpC (model prog w) A (execs orelse env) Q E s₁ | f => Q f s₁)
      (fun e s₁ => wpAny (model prog w) A (noteFrame e env) (fun _ s₂ => wpAny (model prog w) A (setFlight e none) (fun _ s₃ => wpAny (model prog w) A (handleBy e env (h₀ :: hs)) Q E s₃) E s₂) E s₁) s) :
    wpC (model prog w) A (exec (.Try body (h₀ :: hs) orelse [] pos) env) Q E s := by
  rw [arm_exec_Try]
  refine c_bind (c_any (wpAny_standAt ?_))
  unfold tryStmt
  simp only [List.isEmpty_nil, if_true]
  refine c_bind (c_attempt (c_mono h (fun f s₁ h₁ => ?_) fun e s₁ h₁ => ?_))
  · cases f <;> first | exact h₁ | exact c_pure h₁
  · refine c_any (wpAny_bind (wpAny_mono h₁ (fun _ s₂ h₂ => ?_) fun _ _ x => x))
    simp only [List.isEmpty_cons, Bool.false_eq_true, if_false, Bool.false_and]
    exact wpAny_bind (wpAny_mono h₂ (fun _ s₃ h₃ => h₃) fun _ _ x => x)
theorem cc_func {body : List Stmt} {R : Result → Shared → Prop}
    (h : wpC (model prog w) (A.deeper env) (execs body env) (fun f s' => R (.ok (.ret (match f with | .ret v => v | _ => .none))) s')
      (fun e s' => wpAny (model prog w) (A.deeper env) (leaving env e) (fun _ s'' => R (.error e) s'') (fun e' s'' => R (.error e') s'') s') s) :
    codeC (model prog w) A (.func body env) R s := by
  refine cc_of_tree ?_
  show wpC _ (A.deeper env) (do point; match ← (execs body env).onRaise (leaving env) with | .ret v => ret v | _ => ret .none) _ _ s
  refine c_bind (c_any (wpAny_point (c_bind (c_onRaise (c_mono h (fun f s' h' => ?_) fun _ _ h' => h')))))
  cases f <;> exact c_pure h'
end
end
-- H0
section
open PySem PySem.W PyProof.Rows PySem.Calls
open PySem.Sem (wp)
/-- the claim's own context -/
noncomputable abbrev ctx0 : Ctx := ⟨.builtin "claim.caller" {}, none, none, [], none⟩
noncomputable def wpG {α : Type} (M : Model) (t : Sem α) (Q : α → Shared → Prop) (E : Value → Shared → Prop) (s : Shared) : Prop :=
  ∀ p, wp M ctx0 t (fun a _ s' => Q a s') (fun e _ s' => E e s') p s
section
variable {α β : Type} {M : Model} {E : Value → Shared → Prop} {s : Shared}
theorem g_any {t : Sem α} {Q : α → Shared → Prop} (h : wpAny M callerA t Q E s) : wpG M t Q E s := fun p => h ctx0 p caller_in
theorem g_bind {m : Sem α} {f : α → Sem β} {Q : β → Shared → Prop} (h : wpG M m (fun a s' => wpG M (f a) Q E s') E s) : wpG M (m >>= f) Q E s := fun p => by
  rw [Sem.wp_bind']
  exact Sem.wp_mono M ctx0 m (fun a p' s' h' => h' p') (fun _ _ _ h' => h') p s (h p)
theorem g_mono {t : Sem α} {Q Q' : α → Shared → Prop} {E' : Value → Shared → Prop} (h : wpG M t Q E s) (hQ : ∀ a s, Q a s → Q' a s) (hE : ∀ e s, E e s → E' e s) : wpG M t Q' E' s :=
  fun p => Sem.wp_mono M ctx0 t (fun a _ s => hQ a s) (fun e _ s => hE e s) p s (h p)
theorem g_call {f : Value} {pos : List Value} {kw : List (Str × Value)} {Q : Value → Shared → Prop}
    (hc : codeC M callerA (.call f ⟨pos, kw⟩) (fun r s' => match r with | .ok (.ret v) => Q v s' | .ok _ => False | .error e => E e s') s) : wpG M (call f pos kw) Q E s := fun p => by
  show wp M ctx0 (runValue _) _ _ p s
  rw [Sem.wp_runValue]
  exact hc _ p rfl (caller_in.enter _ none p (by intro x; cases x)) (called_top rfl)
end
theorem thread_ends_Q {prog : Program} {w : World} {t : Sem Fin} {s : Shared} {R : Result → Shared → Prop} (hreg : s.asleep)
    (h : wpG (model prog w) t (fun fin s' => ∃ f, fin = .done f ∧ (R (.ok f) s' ∧ leftWithCleanup s'.gens = false)) (fun e s' => R (.error e) s' ∧ leftWithCleanup s'.gens = false) s) :
    ∃ n r s' s'', runN (denote table) prog w n s ⟨t, .builtin "claim.caller" {}, default, []⟩ = .halted (outcomeOf r) s' ∧
      schedN (denote table) prog w n (.single s ⟨t, .builtin "claim.caller" {}, default, []⟩) = .halted (outcomeOf r) s' ∧ s'.forget = s''.forget ∧ R r s'' := by
  have h' : wp (model prog w) ctx0 t (Sem.finPost (model prog w) ctx0 fun r s' => R r s' ∧ leftWithCleanup s'.gens = false) (fun e _ s' => R (.error e) s' ∧ leftWithCleanup s'.gens = false) default s := by
    refine Sem.wp_mono (model prog w) ctx0 t (fun fin p' s' h' => ?_) (fun _ _ _ h' => h') default s (h default)
    obtain ⟨f, rfl, hf⟩ := h'
    exact hf
  obtain ⟨n, r, s₁, s₂, hs, hn, hfo, hR⟩ := wp_halts_full (M := model prog w) (R := R) hreg h'
  exact ⟨n, r, s₂, s₁, hn, hs, hfo, hR⟩
theorem callFrom_Q {c : ClaimW} {tree : List Value → Sem Fin} {w : World} {s : Shared} {free : Addr → Prop} {gens : Prop} {kept : Heap → Prop} (hz : s.asleep) (hgens : s.gens = #[])
    (hspec : ∀ args, c.pre args = true → WData.layableAll args = true →
      ∀ ord : List DictEntry → List DictEntry, (∀ l, (ord l).Perm l) →
      ∃ vs s₁, layAllW c.records (classAt s.heap) w.params ord args s = some (vs, s₁) ∧
        wpG (model c.prog w) (tree vs) (fun fin s' => ∃ f, fin = .done f ∧ (c.Ends s args vs s₁ (.ok f) s' ∧ s'.os = s.os ∧ AllBare s'.gens ∧ kept s'.heap))
          (fun e s' => c.Ends s args vs s₁ (.error e) s' ∧ s'.os = s.os ∧ AllBare s'.gens ∧ kept s'.heap) s₁) :
    c.CallFrom (fun vs => ⟨tree vs, .builtin "claim.caller" {}, default, []⟩) w free gens kept s := by
  intro args hpre hlay ord hord
  refine cps fun P9 hP9 => ?_
  obtain ⟨vs, s₁, hlaid, hcode⟩ := hspec args hpre hlay ord hord
  have hal := layAllW_rest _ _ _ hlaid
  obtain ⟨k, r, s', s'', hrun, hsched, hfo, hcase, hos, hkp⟩ := thread_ends_Q (prog := c.prog) (w := w) (t := tree vs) (s := s₁)
    (R := fun r s' => c.Ends s args vs s₁ r s' ∧ s'.os = s.os ∧ kept s'.heap)
    (Shared.asleep_of_life hal.2.2.2 hz)
    (g_mono hcode (fun fin s' ⟨f, e, h1, h2, h3, h4⟩ => ⟨f, e, ⟨h1, h2, h4⟩, leftWithCleanup_false_of_bare h3⟩) (fun e s' ⟨h1, h2, h3, h4⟩ => ⟨⟨h1, h2, h4⟩, leftWithCleanup_false_of_bare h3⟩))
  obtain ⟨eh, _, _, eo, _⟩ := Shared.forget_eq hfo
  have hcase := hcase.congr eh
  have hkp : kept s'.heap := by first | exact eh ▸ hkp | (rw [eh] at hkp; exact hkp) | (rw [← eh] at hkp; exact hkp)
  rw [← eo] at hos
  have hlife : s'.heap.life = s.heap.life := (runN_life _ _ _ hrun).trans hal.2.2.2
  refine hP9 ⟨vs, s₁, hlaid, k, _, s', hsched, ?_, (fun _ i x hx => by rw [hgens] at hx; simp at hx), hkp, by rw [hlife], Shared.rest_eq hos⟩
  clear hP9 P9
  refine cps fun P9 hP9 => ?_
  rcases hcase with ⟨v, rfl, d1, d2, d3, d4, d5⟩ | ⟨e, ob, cls, rfl, d1, d2, d3, d4, d5⟩
  · exact hP9 (.inl ⟨v, rfl, d1, d2, d3, fun b o y _ => d4 b o y, d5⟩)
  · exact hP9 (.inr ⟨e, ob, cls, rfl, d1, d2, d3, d4, fun b o y _ => d5 b o y⟩)
end
-- H1
section
open PySem PySem.W PyProof.Rows PySem.Calls
/-- what is asked of the law's call, where the caller stands below -/
noncomputable abbrev WalkQ (q : Program) (loose : List Str) (XP : (Str → Option Value) → Heap → Prop) (YP : World → Heap → Prop) (r : RowW) (d : DefRec) (kwd : List (Str × Expr)) : Prop :=
  ∀ (w : World) (s₀ s₁ : Shared) (mg mb : Str → Option Value), Ground q loose r.records XP w s₀ mg mb s₁.heap → YP w s₁.heap → ∀ (a : Addr) (o : Obj) (pm cd doc dV kV : Value), s₁.heap.get? a = some o →
    o.data = .func { docDef d.name d.params d.body d.scope pm cd doc with defaults := dV, kwdefaults := kV } → s₁.heap.CodeRec cd d.name → Dflts mg s₁.heap d.params kwd dV kV → mg d.name = some (.ref a) → s₁.gens = #[] →
    ∀ (args : List WData) (vals : List Value) (as : List Addr), r.claim.pre args = true → WData.layableAll args = true → ReadsAllW r.records (classAt s₀.heap) s₁.heap vals args as → WellAll w.params s₁.heap vals args → (∀ a ∈ as, (a == sysModules) = false) →
      codeC (model r.prog w) callerA (.call (.ref a) ⟨vals, []⟩) (GoodWG r.claim (classAt s₀.heap) (ExcName.means s₀.heap) args s₁) s₁
theorem holds_openQ {r : OpenRow} {q : Program} {loose : List Str} {Xt : Shared → Bool} {XP : (Str → Option Value) → Heap → Prop} {α : Type} {Yf : Shared → α} {Ya : World → α} {YP : World → Heap → Prop} {d : DefRec} {kwd : List (Str × Expr)} {N : Nat}
    (left : LeftO r.prog q loose Xt Yf Ya N) (hY : ∀ w s, Yf s = Ya w → YP w s.heap) (hYk : ∀ w h h', YP w h → (∀ b o, h.get? b = some o → h'.get? b = some o) → YP w h')
    (hX : ∀ s, Xt s = true → XP (s.heap.nsMap mainGlobals) s.heap) (hXk : ∀ mg h h', XP mg h → (∀ b o, h.get? b = some o → h'.get? b = some o) → XP mg h')
    (hdef : defOf q r.name = some (d, kwd)) (hp : r.prog.theDef r.name = some (d.params, d.body, d.scope)) (hk : kwWritten? d.params.kwonlyargs d.params.kw_defaults = some kwd) (hRf : ∀ s, Xt s = true → RecFacts r.records s.heap) (hwr : (!r.writes || r.records.isEmpty) = true)
    (k1 : r.wellSaid = true) (ok : (chainsOk q && opensWell r.prog && (frees r.toRowW && r.within.isEmpty)) = true) (hb : r.prog.bare) (hw : r.toRowW.promised)
    (call : WalkQ q loose XP YP r.toRowW d kwd) : r.Holds := by
  refine ⟨k1, hw, ?_⟩
  refine cps fun P9 hP9 => ?_
  obtain ⟨ok, k5⟩ := Bool.and_eq_true_iff.mp ok
  obtain ⟨hch, o1⟩ := Bool.and_eq_true_iff.mp ok
  obtain ⟨k5, k6⟩ := Bool.and_eq_true_iff.mp k5
  obtain ⟨hsame, hu, ha, hap, hm⟩ := frees_parts k5
  refine hP9 ?_; clear hP9 P9
  refine ⟨⟨hb, o1, by show r.toRowW.makers.map _ = []; rw [hm]; rfl⟩, hw.witness, fun w => ⟨(left.behind hX hch w).1, fun s' hs' => ?_⟩⟩
  refine cps fun P9 hP9 => ?_
  obtain ⟨s₀, hf, hg0, s, hT, hz, hgens, hg, G00, y⟩ := (left.behind (XP := fun mg h => XP mg h ∧ RecFacts r.records h) (fun s hs => ⟨hX s hs, hRf s hs⟩) hch w).2 s' hs'
  refine hP9 ?_; clear hP9 P9
  have G0 : Ground q loose [] XP w s (s.heap.nsMap mainGlobals) (s.heap.nsMap builtinsNs) s.heap := ⟨G00.T, G00.B, G00.D, G00.TE, G00.TD, G00.W, G00.X.1, G00.cls, G00.has, G00.apart, G00.once, G00.K⟩
  have RF := G00.X.2
  have hT' := hT
  refine ⟨s₀, hf, hg0, s, hT, (fun n hn => ?_), RF.1, RF.2.1, ?_⟩
  · obtain rfl : n = r.name := by split at hn <;> simp_all
    exact pinned_of_view hg G0 hdef hp hk
  have hgens : s.gens = #[] := Array.eq_empty_of_size_eq_zero (beq_iff_eq.mp hgens)
  have G : Ground q loose r.records XP w s _ _ s.heap := RF.ground G0
  refine callFrom_Q (c := r.toRowW.claim) (tree := fun vs => do match ← nsGet mainNs r.name with
      | some f => do ret (← PySem.call f vs)
      | none => unsupported "claim.caller:no-such-global") hz hgens fun args hpre hlay ord hord => ?_
  refine cps fun P9 hP9 => ?_
  obtain ⟨⟨vs, s₁⟩, hlaid⟩ := Option.isSome_iff_exists.mp (layAllW_isSome (P := w.params) (ord := ord) G.has args r.args s (pre_splitW hpre).1)
  have keeps := layAllW_keeps _ _ _ hlaid
  have hal := layAllW_rest _ _ _ hlaid
  obtain ⟨as, hrd, hin, hold⟩ := reads_layAllW hord _ _ _ hlaid hlay s₁.heap (fun _ _ e => e)
  have L : Laid r.records w s s₁ args vs as := ⟨⟨ord, hord, hlaid⟩, hrd, hin, hold, keeps, hal.1.trans hgens, hal.2.2.1⟩
  have G₁ := G.keeps hXk keeps
  have hi := ident_freeW hu ha hap
  have hwi : r.toRowW.claim.within = [] := List.isEmpty_iff.mp k6
  obtain ⟨a, o, pm, cd, doc, dV, kV, h1, h2, h3, h4, h5⟩ := G₁.fn hdef
  have h := call w s s₁ _ _ G₁ (hYk _ _ _ (hY w s y) keeps) a o pm cd doc dV kV h2 h3 h4 h5 (defOf_name hdef ▸ h1) L.gens args vs as hpre hlay L.reads L.well (L.low G.low)
  refine hP9 ⟨vs, s₁, hlaid, g_bind (g_any (wpAny_nsGet G₁.T.g ?_))⟩
  rw [h1]
  refine g_bind (g_call (cc_mono h fun res s' g => ?_))
  clear hP9 P9
  rcases id g.1 with ⟨v, _, _, rfl, _⟩ | ⟨e, _, _, rfl, _⟩
  · refine g_any (wpAny_pure ⟨_, rfl, ?_⟩)
    have z := g.laid (c := r.toRowW.claim) hsame hwi hi L
    exact ⟨z.1, z.2.1, z.2.2, fun q => ⟨namesKept_of hT' hg r.keeps keeps g.2.1.old, noTable hwr q⟩⟩
  · have z := g.laid (c := r.toRowW.claim) hsame hwi hi L
    exact ⟨z.1, z.2.1, z.2.2, fun q => ⟨namesKept_of hT' hg r.keeps keeps g.2.1.old, noTable hwr q⟩⟩
end
-- TT
section
open PySem PySem.W PyProof.Rows
/-- the i-th of a row, by structure -/
noncomputable def nthO : List Obj → Nat → Option Obj
  | [], _ => none
  | o :: l, i => match Nat.beq i 0 with
    | true => some o
    | false => nthO l (i - 1)
theorem nthO_eq : ∀ (l : List Obj) (i : Nat), nthO l i = l[i]?
  | [], i => by simp [nthO]
  | o :: l, i => by
    unfold nthO
    rw [BT.beq_eq]
    by_cases h : i = 0
    · subst h; simp
    · rw [decide_eq_false h]
      show nthO l (i - 1) = _
      rw [nthO_eq l (i - 1)]
      cases i with
      | zero => exact absurd rfl h
      | succ i => simp
/-- a row as a tree: the node at b, step a -/
noncomputable def treeF (l : List Obj) : Nat → Nat → Nat → BT
  | 0, _, _ => .nil
  | n + 1, a, b => match nthO l b with
    | some o => .node o (treeF l n (2 * a) (a + b)) (treeF l n (2 * a) (2 * a + b))
    | none => .nil
theorem treeF_get (l : List Obj) : ∀ (n a b i : Nat), 0 < a → l.length ≤ a * n + b → (treeF l n a b).get i = l[a * i + b]?
  | 0, a, b, i, ha, hn => by
    show none = _
    have := Nat.zero_le (a * i)
    exact (List.getElem?_eq_none (by omega)).symm
  | n + 1, a, b, i, ha, hn => by
    unfold treeF
    rw [nthO_eq]
    have e1 : a * (n + 1) = a * n + a := Nat.mul_succ a n
    have e2 : 2 * a * n = a * n + a * n := by rw [Nat.mul_assoc]; omega
    cases e : l[b]? with
    | none =>
      show none = _
      have := List.getElem?_eq_none_iff.mp e
      have := Nat.zero_le (a * i)
      exact (List.getElem?_eq_none (by omega)).symm
    | some o =>
      show (BT.node o _ _).get i = _
      rw [BT.get_node]
      have h0 := Nat.zero_le (a * n)
      by_cases hi : i = 0
      · subst hi; simp [e]
      · rw [if_neg hi]
        by_cases pi : i % 2 = 1
        · rw [if_pos pi, treeF_get l n (2 * a) (a + b) (i / 2) (by omega) (by omega)]
          have : 2 * a * (i / 2) + (a + b) = a * i + b := by
            have q : i = 2 * (i / 2) + 1 := by omega
            have : a * i = 2 * a * (i / 2) + a := by
              conv => lhs; rw [q]
              rw [Nat.mul_add, ← Nat.mul_assoc, Nat.mul_comm a 2, Nat.mul_one]
            omega
          rw [this]
        · rw [if_neg pi, treeF_get l n (2 * a) (2 * a + b) (i / 2 - 1) (by omega) (by omega)]
          have : 2 * a * (i / 2 - 1) + (2 * a + b) = a * i + b := by
            have q : i = 2 * (i / 2 - 1) + 2 := by omega
            have : a * i = 2 * a * (i / 2 - 1) + 2 * a := by
              conv => lhs; rw [q]
              rw [Nat.mul_add, ← Nat.mul_assoc, Nat.mul_comm a 2]
            omega
          rw [this]
noncomputable def toT (s : Shared) : SharedT := ⟨treeF s.heap.objs.toList s.heap.objs.toList.length 1 0, s.heap.objs.toList.length, s.heap.life, s.gens, s.drawn, s.toks, s.os⟩
theorem toT_abs (s : Shared) : (toT s).abs = s := by
  obtain ⟨⟨objs, life⟩, gens, drawn, toks, os⟩ := s
  show Shared.mk (absHeap _ _ _) _ _ _ _ = _
  have : absHeap (treeF objs.toList objs.toList.length 1 0) objs.toList.length life = ⟨objs, life⟩ := by
    show Heap.mk _ _ = Heap.mk _ _
    congr 1
    apply Array.ext_getElem?
    intro i
    have e := absHeap_at (treeF objs.toList objs.toList.length 1 0) objs.toList.length life i
    rw [show (absHeap (treeF objs.toList objs.toList.length 1 0) objs.toList.length life).objs = (BT.list _ _).toArray from rfl] at e
    rw [e, treeF_get _ _ _ _ _ (by omega) (by omega)]
    rw [show 1 * i + 0 = i by omega]
    by_cases h : i < objs.toList.length
    · rw [if_pos h, List.getElem?_eq_getElem h]
      rw [← Array.getElem?_toList, List.getElem?_eq_getElem h]; rfl
    · rw [if_neg h, ← Array.getElem?_toList, List.getElem?_eq_none (by omega)]
  show Shared.mk (absHeap (treeF objs.toList objs.toList.length 1 0) objs.toList.length life) _ _ _ _ = _
  rw [this]
  rfl
/-- the text's run over trees; the step and its look are handed in, so that the kit's quick twins can stand in their place -/
noncomputable def topRunT (st : SharedT → Thread → Option (SharedT × Thread)) (ok : Thread → Bool) : Nat → SharedT → Thread → Option SharedT
  | 0, _, _ => none
  | n + 1, s, t => match through t with
    | true => some s
    | false => match ok t with
      | false => none
      | true => match st s t with
        | some (s', t') => topRunT st ok n s' t'
        | none => none
noncomputable def impT (st : SharedT → Thread → Option (SharedT × Thread)) : Nat → SharedT → Thread → Option SharedT
  | 0, _, _ => none
  | n + 1, s, t => match t.atExitBegin with
    | some [] => some s
    | some (_ :: _) => none
    | none => match st s t with
      | some (s', t') => impT st n s' t'
      | none => none
theorem topRunT_of {tb : String → Option Builtin} {p : Program} {w : World} {n₀ : Nat} {ann : Option Value} : ∀ {n : Nat} {s s' : SharedT} {t : Thread}, topRunT (stepT (denote tb) p w) (stepOk n₀ ann) n s t = some s' → topRun tb p w n₀ ann n s.abs t = some s'.abs
  | 0, _, _, _, h => by cases h
  | n + 1, s, s', t, h => by
    unfold topRunT at h
    unfold topRun
    cases he : through t with
    | true => rw [he] at h; cases h; rfl
    | false =>
      rw [he] at h
      cases hk : stepOk n₀ ann t with
      | false => rw [hk] at h; cases h
      | true =>
        rw [hk] at h
        cases hs : stepT (denote tb) p w s t with
        | none => rw [hs] at h; cases h
        | some r => obtain ⟨s₂, t₂⟩ := r; rw [hs] at h; rw [stepT_spec hs]; exact topRunT_of h
theorem impT_of {tb : String → Option Builtin} {p : Program} {w : World} : ∀ {n : Nat} {s s' : SharedT} {t : Thread}, impT (stepT (denote tb) p w) n s t = some s' → importEnds tb p w n s.abs t = some s'.abs
  | 0, _, _, _, h => by cases h
  | n + 1, s, s', t, h => by
    unfold impT at h
    unfold importEnds
    cases he : t.atExitBegin with
    | some l =>
      rw [he] at h
      cases l with
      | nil => cases h; rfl
      | cons => cases h
    | none =>
      rw [he] at h
      cases hs : stepT (denote tb) p w s t with
      | none => rw [hs] at h; cases h
      | some r => obtain ⟨s₂, t₂⟩ := r; rw [hs] at h; dsimp only; rw [stepT_spec hs]; exact impT_of h
/-- the opening, the fence and the text's run, in trees -/
noncomputable def openT (st : Program → SharedT → Thread → Option (SharedT × Thread)) (ok : Nat → Option Value → Thread → Bool) (p : Program) (N : Nat) : Option (SharedT × SharedT) :=
  match impT (st (opening p)) N (toT (start (opening p)).1) (start (opening p)).2 with
  | none => none
  | some a => match fenceModules? p a.abs with
    | none => none
    | some s₀ => match s₀.heap.isNs mainGlobals && s₀.gens.size == 0 with
      | false => none
      | true => match topRunT (st p) (ok s₀.heap.objs.size (s₀.heap.nsMap mainGlobals "__annotations__")) N (toT s₀) (topStub p) with
        | none => none
        | some b => some (toT s₀, b)
theorem openT_of {tb : String → Option Builtin} {p : Program} {w : World} {N : Nat} {a b : SharedT} (h : openT (fun p => stepT (denote tb) p w) stepOk p N = some (a, b))
    (l : (staticsOk (importedModules p.main.body) a.abs.heap b.abs.heap && namesBound p b.abs.heap && gensDone b.abs && laidKept a.abs.heap b.abs.heap) = true) : openEnds tb p w N = some b.abs := by
  unfold openT at h
  split at h
  · cases h
  next a1 e1 =>
    split at h
    · cases h
    next s0 e2 =>
      split at h
      · cases h
      next e3 =>
        split at h
        · cases h
        next b1 e4 =>
          cases h
          rw [toT_abs] at l
          have r1 := impT_of e1
          rw [toT_abs] at r1
          have r2 := topRunT_of e4
          rw [toT_abs] at r2
          unfold openEnds fencedOpening
          rw [r1]
          show (fenceModules? p a1.abs).bind _ = _
          rw [e2]
          show topFrom tb p w N s0 = _
          unfold topFrom
          rw [e3, r2]
          show (match staticsOk (importedModules p.main.body) s0.heap b.abs.heap && namesBound p b.abs.heap && gensDone b.abs && laidKept s0.heap b.abs.heap with | true => _ | false => _) = _
          rw [l]
/-- .. with twins in the places of the model's step, its codes, its table and the look -/
theorem left_ofT {p q : Program} {loose : List Str} {Xt : Shared → Bool} {α : Type} {Yf : Shared → α} {Ya : World → α} {N : Nat} {g0 : Bool} {S D O Z T} (se : @stepT = S) (de : @denote = D) (oe : @stepOk = O) (ze : @openSeen = Z) (te : treeTable = T)
    (h : ∀ w, (openT (fun p => S (D T) p w) O p N).map (fun x => ((staticsOk (importedModules p.main.body) x.1.abs.heap x.2.abs.heap && namesBound p x.2.abs.heap && gensDone x.2.abs && laidKept x.1.abs.heap x.2.abs.heap),
      Z q loose (importedModules p.main.body) Xt g0 x.2.abs, Yf x.2.abs)) = some (true, openGood q loose, Ya w)) : LeftO p q loose Xt Yf Ya N g0 := fun w => by
  subst se de oe ze te
  obtain ⟨⟨a, b⟩, e1, e2⟩ := Option.map_eq_some_iff.mp (h w)
  obtain ⟨l1, l2⟩ := Prod.mk.inj e2
  rw [openT_of e1 l1]
  exact congrArg some l2
end
-- HdN
section
open PySem PySem.W PyProof.Rows
/-- the text's top without three of its statements, that nothing asks for -/
noncomputable def hdView : Program :=
  { Challenge.pw_mq0106_01 with main := { Challenge.pw_mq0106_01.main with body := Challenge.pw_mq0106_01.main.body.take 2 ++ ((Challenge.pw_mq0106_01.main.body.drop 3).take 4 ++ ((Challenge.pw_mq0106_01.main.body.drop 8).take 1 ++ Challenge.pw_mq0106_01.main.body.drop 10)) } }
theorem hdSaid : Challenge.rw_mq0106_01.wellSaid = true := by rw [PySem.W.Fast.te9446332074065402090]; kernel_rfl
local macro_rules | `(tactic| o_law) => `(tactic| refine holds_law hdSaid fun said => ?_)
open PySem.W.Fast in
theorem hdHead (H : Hook) (hl : ∀ w, (openT (fun p => tw10156331382660048174 (tw11892475500146522536 tw14364793385576792824) p w) tw6613529449190102663 Challenge.pw_mq0106_01 4684).map (fun x => ((staticsOk (importedModules Challenge.pw_mq0106_01.main.body) x.1.abs.heap x.2.abs.heap && namesBound Challenge.pw_mq0106_01 x.2.abs.heap && gensDone x.2.abs && laidKept x.1.abs.heap x.2.abs.heap),
      tw4187177175401517315 hdView [Str.ofString "_tuplegetter", Str.ofString "Pair"] (importedModules Challenge.pw_mq0106_01.main.body) (fun s => xlAt hdView [] s && recOk (RowW.records (OpenRow.toRowW (OpenLaw.row Challenge.rw_mq0106_01))) s) true x.2.abs, H.obs x.2.abs)) = some (true, openGood hdView [Str.ofString "_tuplegetter", Str.ofString "Pair"], H.val w)) {d : DefRec} {kwd : List (Str × Expr)}
    (hdef : defOf hdView (OpenLaw.row Challenge.rw_mq0106_01).name = some (d, kwd)) (hp : (OpenLaw.row Challenge.rw_mq0106_01).prog.theDef (OpenLaw.row Challenge.rw_mq0106_01).name = some (d.params, d.body, d.scope))
    (hk : kwWritten? d.params.kwonlyargs d.params.kw_defaults = some kwd) (k1 : (OpenLaw.row Challenge.rw_mq0106_01).wellSaid = true) (hw : (OpenRow.toRowW (OpenLaw.row Challenge.rw_mq0106_01)).promised)
    (hc : WalkQ hdView [Str.ofString "_tuplegetter", Str.ofString "Pair"] (XL hdView []) H.says (OpenRow.toRowW (OpenLaw.row Challenge.rw_mq0106_01)) d kwd) : (OpenLaw.row Challenge.rw_mq0106_01).Holds := by
  refine holds_openQ (q := hdView) (loose := [Str.ofString "_tuplegetter", Str.ofString "Pair"]) (Xt := fun s => xlAt hdView [] s && recOk (RowW.records (OpenRow.toRowW (OpenLaw.row Challenge.rw_mq0106_01))) s) (XP := XL hdView []) (Yf := H.obs) (Ya := H.val) (YP := H.says) (N := 4684) ?hl H.of H.keeps
    (fun s e => xl_of s (Bool.and_eq_true_iff.mp e).1) XL.keeps hdef hp hk (fun s e => recFacts_of (Bool.and_eq_true_iff.mp e).2) (by rfl) k1 (by decide +kernel) ⟨rfl, rfl, rfl, rfl, rfl, by decide +kernel⟩ hw hc
  exact left_ofT te10156331382660048174 te11892475500146522536 te6613529449190102663 te4187177175401517315 te14364793385576792824 hl
local macro_rules | `(tactic| o_head $H) => `(tactic| refine hdHead $H (fun _ => by kernel_rfl) (by rfl) (by rfl) (by rfl) (by assumption) ?hw ?hc)
open_top hd for PySem.Challenge.rw_mq0106_01
/-- the head leaves the walk's lines of the text's top on: off again -/
theorem hd_off : True := by (w_top off); trivial
end
theorem off_M1 : True := by
  w_top off
  k_with_none
  trivial
-- M1
section
open PySem PySem.W PyProof.Rows PySem.Calls
/-- all but the places D stands as it stood -/
noncomputable def Kp (D : List Addr) (h h' : Heap) : Prop := ∀ a o, a ∉ D → h.get? a = some o → h'.get? a = some o
theorem Kp.refl {D : List Addr} {h : Heap} : Kp D h h := fun _ _ _ e => e
theorem Kp.trans {D : List Addr} {h h' h'' : Heap} (x : Kp D h h') (y : Kp D h' h'') : Kp D h h'' := fun a o n e => y a o n (x a o n e)
theorem Kp.more {D D' : List Addr} {h h' : Heap} (x : Kp D h h') (k : ∀ a ∈ D, a ∈ D') : Kp D' h h' := fun a o n e => x a o (fun q => n (k a q)) e
theorem Kp.nil {h h' : Heap} (x : Kp [] h h') : h.StaysIn h' := fun a o e => x a o List.not_mem_nil e
theorem Kp.of_stays {h h' : Heap} (x : h.StaysIn h') : Kp [] h h' := fun a o _ e => x a o e
theorem Kp.stays {D : List Addr} {b h h' : Heap} (x : Kp D h h') (S : b.StaysIn h) (n : ∀ d ∈ D, b.get? d = none) : b.StaysIn h' :=
  fun a o e => x a o (fun q => by rw [n a q] at e; cases e) (S a o e)
theorem fr_kp {h₀ h h' : Heap} {L : Addr} {m : Str → Option Value} {D : List Addr} (F : Fr h₀ L h m) (k : Kp D h h') (n : ∀ d ∈ D, h₀.get? d = none ∧ d ≠ L) : Fr h₀ L h' m := by
  obtain ⟨⟨oL, es, ep, hL, r⟩, fk, ab⟩ := F
  exact ⟨⟨oL, es, ep, k _ _ (fun q => (n _ q).2 rfl) hL, r⟩, fun b o e => k b o (fun q => by rw [(n b q).1] at e; cases e) (fk b o e), ab⟩
theorem fr_kp0 {h₀ h h' : Heap} {L : Addr} {m : Str → Option Value} (F : Fr h₀ L h m) (k : Kp [] h h') : Fr h₀ L h' m := fr_kp F k fun _ q => (nomatch q)
theorem news_kp {h₀ h h' : Heap} {L : Addr} {news : List (Addr × Obj)} {D : List Addr} (N : News h₀ L h news) (k : Kp D h h') (n : ∀ p ∈ news, p.1 ∉ D) : News h₀ L h' news :=
  fun p hp => ⟨k _ _ (n p hp) (N p hp).1, (N p hp).2⟩
theorem news_kp0 {h₀ h h' : Heap} {L : Addr} {news : List (Addr × Obj)} (N : News h₀ L h news) (k : Kp [] h h') : News h₀ L h' news := news_kp N k fun _ _ => List.not_mem_nil
theorem news_new {h₀ h h' : Heap} {L a : Addr} {o : Obj} {m : Str → Option Value} {news : List (Addr × Obj)} (F : Fr h₀ L h m) (N : News h₀ L h' news) (fr : h.get? a = none) (e : h'.get? a = some o) : News h₀ L h' ((a, o) :: news) := by
  intro p hp
  rcases List.mem_cons.mp hp with rfl | hp
  · refine ⟨e, fun q => ?_, ?_⟩
    · obtain ⟨oL, es, ep, hL, r⟩ := F.ns
      have q' : a = L := q
      rw [← q', fr] at hL; cases hL
    · cases q : h₀.get? a with
      | none => rfl
      | some o' => have := F.keep _ _ q; rw [fr] at this; cases this
  · exact N p hp
noncomputable def AllNe (d : Addr) : List (Addr × Obj) → Prop
  | [] => True
  | p :: r => @Ne Nat p.1 d ∧ AllNe d r
theorem allNe_of {d : Addr} : ∀ {l : List (Addr × Obj)}, (∀ p ∈ l, p.1 ≠ d) → AllNe d l
  | [], _ => trivial
  | p :: _, h => ⟨h p (.head _), allNe_of fun q hq => h q (.tail _ hq)⟩
theorem allNe_mem {d : Addr} : ∀ {l : List (Addr × Obj)}, AllNe d l → ∀ p ∈ l, p.1 ≠ d
  | [] => fun _ _ hp => nomatch hp
  | q :: r => fun h p hp => by
    rcases List.mem_cons.mp hp with e | hq
    · rw [e]; exact h.1
    · exact allNe_mem h.2 p hq
theorem news_ne {h₀ h : Heap} {L : Addr} {news : List (Addr × Obj)} (N : News h₀ L h news) {a : Addr} (fr : h.get? a = none) : AllNe a news := allNe_of fun p hp q => by
  have := (N p hp).1; rw [q, fr] at this; cases this
theorem fresh_of {s g h : Heap} {L : Addr} {D : List Addr} {news : List (Addr × Obj)} (hg : ∀ a o, a ∉ D → s.get? a = some o → g.get? a = some o) (N : News g L h news) {a : Addr} {o : Obj} (m : (a, o) ∈ news) (n : a ∉ D) : s.get? a = none := by
  cases q : s.get? a with
  | none => rfl
  | some o' => have := (N _ m).2.2; rw [hg a o' n q] at this; cases this
theorem news_lt {h₀ h : Heap} {L : Addr} {news : List (Addr × Obj)} (N : News h₀ L h news) {a : Addr} (ge : h.objs.size ≤ a) : ∀ p ∈ news, p.1 < a := fun p hp => Nat.lt_of_lt_of_le (Heap.lt_size (N p hp).1) ge
theorem news_sub {h₀ h : Heap} {L : Addr} {news news' : List (Addr × Obj)} (N : News h₀ L h news) (k : ∀ p ∈ news', p ∈ news) : News h₀ L h news' := fun p hp => N p (k p hp)
section
variable {w : World} {A : Around} {s : Shared} {hb : Heap} {loose : List Str} {mean : ExcName → Option Value} {mg mb : Str → Option Value} {prog : Program} {K : Frag} {p : Program}
  {R : Result → Shared → Prop} {name qual : Str} {params : Arguments} {body : List Stmt} {scope : Scope} {dV kV doc pm cdv ct oc : Value} {an od : Option Addr} {osl : Array (Option Value)} {f : Addr} {args : Args} {binds : List (Str × Value)}
/-- a call of a def of the text: its body over a base that is the caller's heap but for D, the objects that the body may turn -/
theorem enter (X : K.In hb) (T : Top p loose mean mg mb hb) (S : hb.StaysIn s.heap) (D : List (Addr × Obj)) (hD : ∀ q ∈ D, s.heap.get? q.1 = some q.2 ∧ hb.get? q.1 = none)
    (ho : K.lookup f = some ⟨oc, od, .func (fnOf name qual params body scope dV kV doc pm an cdv ct), osl⟩) (hcd : codeIn K cdv qual = true) (hroom : A.depth < recursionLimit)
    (hbind : BindsTo s (fnOf name qual params body scope dV kV doc pm an cdv ct) args binds) (hloc : ∀ y ∈ binds, scope.names.lookup y.1 = some .local)
    (h : ∀ g L h₁, Fr g L h₁ (fun y => binds.reverse.lookup y) → News g L h₁ D → K.In g → Top p loose mean mg mb g → hb.StaysIn g →
      (∀ a o, a ∉ D.map (·.1) → s.heap.get? a = some o → g.get? a = some o) → s.heap.objs.size = L → (∀ q ∈ D, q.1 < L) →
      wpAny (model prog w) (A.deeper (envOf qual scope L f cdv)) (execs body (envOf qual scope L f cdv))
        (fun fl s' => R (.ok (.ret (match fl with | .ret v => v | _ => .none))) s')
        (fun e s' => wpAny (model prog w) (A.deeper (envOf qual scope L f cdv)) (leaving (envOf qual scope L f cdv) e) (fun _ s'' => R (.error e) s'') (fun e' s'' => R (.error e') s'') s')
        { s with heap := h₁, toks := s.toks + binds.length })
    (hcell : ∀ x ∈ scope.names, x.2 ≠ .cell) (hco : scope.isCoroutine = false := by rfl) (hgen : scope.isGenerator = false := by rfl) (hk : scope.kind = .function := by rfl) : codeAny (model prog w) A (.call (.ref f) args) R s := by
  refine codeAny_call_def (fd := fnX name qual params body scope [] dV kV doc pm an cdv ct) (body := body) (binds := binds) hroom (S _ _ (X _ _ ho)) rfl (T.nolimit.keeps S) (codeRec_of (X.keeps S) hcd) rfl hbind hcell hloc (fun h₁ hns hk₁ => ?_) hco hgen hk
  have nm : ∀ b o, hb.get? b = some o → b ∉ D.map (·.1) := fun b o e q => by
    obtain ⟨q', hq, rfl⟩ := List.mem_map.mp q
    rw [(hD _ hq).2] at e; cases e
  have st : hb.StaysIn (hideAll s.heap (D.map (·.1))) := fun b o e => hideAll_get _ (S b o e) (nm b o e)
  refine h (hideAll s.heap (D.map (·.1))) s.heap.objs.size h₁ ⟨hns, fun b o e => hk₁ b o (of_hideAll _ e), Nat.le_of_eq (hideAll_size _ _)⟩ (fun q hq => ⟨hk₁ _ _ (hD q hq).1, Nat.ne_of_lt (Heap.lt_size (hD q hq).1), hideAll_none _ (List.mem_map_of_mem hq)⟩)
    (Frag.In.keeps (h' := hideAll s.heap (D.map (·.1))) X fun b o e => st b o e) (Top.keeps (h' := hideAll s.heap (D.map (·.1))) T fun b o e => st b o e) st (fun a o n e => hideAll_get _ e n) rfl (fun q hq => Heap.lt_size (hD q hq).1)
/-- what the end of a body gives back -/
theorem kp_of {s h : Heap} {g : Heap} {L : Addr} {m : Str → Option Value} {D : List Addr} (F : Fr g L h m) (hg : ∀ a o, a ∉ D → s.get? a = some o → g.get? a = some o) : Kp D s h :=
  fun a o n e => F.keep a o (hg a o n e)
end
end
local macro_rules | `(tactic| k_room) => `(tactic| ((try simp only [depth_under_make, depth_under_kw, depth_in1, depth_deeper, depth_caller, recursionLimit]); omega))
theorem off_M2 : True := by
  w_top off
  k_with_none
  trivial
-- M2
section
open PySem PySem.W PyProof.Rows PySem.Calls
noncomputable def words : List Str := ["a", "b", "a b", "c", "", "=", "A", "c"]
noncomputable def wordAt (i : Int) : Str := words.getD i.toNat ""
theorem strs_get : ∀ {vs : List Value} {ws : List Str}, StrsAre vs ws → ∀ {i : Nat} {x : Str}, ws[i]? = some x → ∃ t, vs[i]? = some (.str x t)
  | _, _, .cons y t r, 0, x, e => by
    simp only [List.getElem?_cons_zero, Option.some.injEq] at e
    subst e; exact ⟨t, rfl⟩
  | _, _, .cons y t r, i + 1, x, e => by
    simp only [List.getElem?_cons_succ] at e ⊢
    exact strs_get r e
theorem strs_len : ∀ {vs : List Value} {ws : List Str}, StrsAre vs ws → vs.length = ws.length
  | _, _, .nil => rfl
  | _, _, .cons _ _ r => by rw [List.length_cons, List.length_cons, strs_len r]
section
variable {w : World} {A : Around} {s : Shared} {hb : Heap} {loose : List Str} {mean : ExcName → Option Value} {mg mb : Str → Option Value} {R : Result → Shared → Prop}
theorem words_spec (X : (hd.heap_1 w.params).In hb) (T : Top topProg loose mean mg mb hb) (S : hb.StaysIn s.heap) (hroom : A.depth < 950)
    (k : ∀ h' tk a vs, Kp [] s.heap h' → s.heap.get? a = none → h'.get? a = some (listOf vs.toArray 0) → StrsAre vs words → R (.ok (.ret (.ref a))) { s with heap := h', toks := tk }) :
    codeAny (model Challenge.rw_mq0106_01.row.prog w) A (.call (.ref 227) ⟨[], []⟩) R s := by
  revert X; k_fill; intro X
  refine' enter X T S [] (by simp) ?k6 ?k7 ?k8 ?k9 ?kB ?_ ?c2 ?c3 ?c4 ?c5
  case k6 => k_is
  case k7 => k_is
  case k8 => k_room
  case k9 => exact BindsTo.of_eq rfl
  case kB => exact locs rfl
  case c2 => decide
  case c3 => exact rfl
  case c4 => exact rfl
  case c5 => exact rfl
  intro g' L' h' F' N' X' T' S' hg' hL' hl'
  (try dsimp only)
  k_fold
  clear X T S
  k_steps
  refine k _ _ _ _ (kp_of (by assumption) hg') ?_ (News.get (by assumption) (.head _)) ?_
  · exact fresh_of hg' ‹_› (.head _) List.not_mem_nil
  · exact .cons _ _ (.cons _ _ (.cons _ _ (.cons _ _ (.cons _ _ (.cons _ _ (.cons _ _ (.cons _ _ .nil)))))))
end
end
local macro_rules | `(tactic| walk_at $s:str) => `(tactic| k_extra $s)
theorem off_M3 : True := by
  w_top off
  k_with_none
  trivial
-- M3
section
open PySem PySem.W PyProof.Rows PySem.Calls
theorem fm3 (a : Int) : Int.fmod a 3 = a % 3 := Int.fmod_eq_emod_of_nonneg _ (by decide)
theorem fm4 (a : Int) : Int.fmod a 4 = a % 4 := Int.fmod_eq_emod_of_nonneg _ (by decide)
theorem fm5 (a : Int) : Int.fmod a 5 = a % 5 := Int.fmod_eq_emod_of_nonneg _ (by decide)
theorem fm9 (a : Int) : Int.fmod a 9 = a % 9 := Int.fmod_eq_emod_of_nonneg _ (by decide)
noncomputable def blanks : List Str := ["", " ", "\t", "\n "]
noncomputable def blankAt (i : Int) : Str := blanks.getD i.toNat ""
noncomputable def textOf (x : Int) : Str :=
  let b := blankAt ((x.fdiv 405).fmod 4)
  let n := wordAt (x.fmod 3)
  if (x.fdiv 405).fmod 5 = 4 then (b ++ n) ++ b else (((((b ++ n) ++ b) ++ "=") ++ b) ++ wordAt (4 + (x.fdiv 3).fmod 3)) ++ b
theorem textOf_yes {x : Int} (h : (x.fdiv 405).fmod 5 = 4) : textOf x = blankAt ((x.fdiv 405).fmod 4) ++ wordAt (x.fmod 3) ++ blankAt ((x.fdiv 405).fmod 4) := by
  unfold textOf; exact if_pos h
theorem textOf_no {x : Int} (h : ¬ (x.fdiv 405).fmod 5 = 4) : textOf x = blankAt ((x.fdiv 405).fmod 4) ++ wordAt (x.fmod 3) ++ blankAt ((x.fdiv 405).fmod 4) ++ "=" ++ blankAt ((x.fdiv 405).fmod 4) ++ wordAt (4 + (x.fdiv 3).fmod 3) ++ blankAt ((x.fdiv 405).fmod 4) := by
  unfold textOf; exact if_neg h
theorem item_strs {prog : Program} {w : World} {A : Around} {E : Value → Shared → Prop} {s : Shared} {h₀ : Heap} {L l : Addr} {news : List (Addr × Obj)} {vs : List Value} {n : Nat} {ws : List Str} {i : Int} {u : Tok} {value slice : Expr} {Q : Value → Shared → Prop}
    (N : News h₀ L s.heap news) (hm : (l, listOf vs.toArray n) ∈ news) (hs : StrsAre vs ws) (h0 : 0 ≤ i) (h1 : i.toNat < ws.length) (h63 : i < 2 ^ 63) (h : ∀ t, Q (.str (ws.getD i.toNat "") t) s)
    (hsub : subscripted slice false (.ref l) (.int i u) = operate [.ref l, .int i u] (getItem (.ref l) (.int i u)) := by with_unfolding_all rfl) :
    wpAny (model prog w) A (subscriptTail value slice (.ref l) (.int i u)) Q E s := by
  have hl : s.heap.IsList l vs.toArray := ⟨_, (N _ hm).1, rfl, n, rfl⟩
  obtain ⟨t, e⟩ := strs_get hs (i := i.toNat) (x := ws.getD i.toNat "") (by simp [h1])
  exact tail_any hl.typeIs slot_list_getitem.lookup (wpAny_getItem_list hl h0 h63 (by simpa using e) (h t)) hsub
section
variable {prog : Program} {w : World} {A : Around} {E : Value → Shared → Prop} {s : Shared} {h₀ : Heap} {L l : Addr} {news : List (Addr × Obj)} {vs : List Value} {n : Nat} {i : Int} {u : Tok} {value slice : Expr} {Q : Value → Shared → Prop}
theorem item_words (N : News h₀ L s.heap news) (hm : (l, listOf vs.toArray n) ∈ news) (hs : StrsAre vs words) (h0 : 0 ≤ i) (h1 : i < 8) (h : ∀ t, Q (.str (wordAt i) t) s)
    (hsub : subscripted slice false (.ref l) (.int i u) = operate [.ref l, .int i u] (getItem (.ref l) (.int i u)) := by with_unfolding_all rfl) :
    wpAny (model prog w) A (subscriptTail value slice (.ref l) (.int i u)) Q E s :=
  item_strs N hm hs h0 (by simp only [words, List.length_cons, List.length_nil]; omega) (by omega) h hsub
theorem item_blanks (N : News h₀ L s.heap news) (hm : (l, listOf vs.toArray n) ∈ news) (hs : StrsAre vs blanks) (h0 : 0 ≤ i) (h1 : i < 4) (h : ∀ t, Q (.str (blankAt i) t) s)
    (hsub : subscripted slice false (.ref l) (.int i u) = operate [.ref l, .int i u] (getItem (.ref l) (.int i u)) := by with_unfolding_all rfl) :
    wpAny (model prog w) A (subscriptTail value slice (.ref l) (.int i u)) Q E s :=
  item_strs N hm hs h0 (by simp only [blanks, List.length_cons, List.length_nil]; omega) (by omega) h hsub
end
theorem getD_len {ws : List Str} {n : Nat} (h : ∀ x ∈ ws, x.length ≤ n) (i : Nat) : (ws.getD i "").length ≤ n := by
  rw [List.getD_eq_getElem?_getD]
  cases e : ws[i]? with
  | none => exact Nat.zero_le _
  | some x => exact h x (List.mem_of_getElem? e)
theorem len_word (i : Int) : (wordAt i).length ≤ 3 := getD_len (by decide +kernel) _
theorem len_blank (i : Int) : (blankAt i).length ≤ 2 := getD_len (by decide +kernel) _
theorem len_add {x y : Str} {a b : Nat} (hx : x.length ≤ a) (hy : y.length ≤ b) : (x ++ y).length ≤ a + b := by rw [Str.length_append]; omega
theorem len_eq : (("=" : Str)).length ≤ 1 := by decide +kernel
theorem len_fit {x y : Str} {a b : Nat} (hx : x.length ≤ a) (hy : y.length ≤ b) (h : a + b ≤ 1000) : x.length + y.length ≤ sizeLine := by rw [sizeLine_eq]; omega
section
variable {w : World} {A : Around} {s : Shared} {hb : Heap} {loose : List Str} {mean : ExcName → Option Value} {mg mb : Str → Option Value} {R : Result → Shared → Prop}
theorem kw_M3_1 : True := by
  k_with_none
  k_with "call ref" => (k_here; (with_reducible show wpAny _ _ (PySem.call (Value.ref 227) _) _ _ _); refine wpAny_call ?_; refine words_spec (by k_asm) (by k_asm) (Fr.keep (by k_asm)) (by k_room) ?_; intro _ _ _ _ z_kp' z_fr' z_hl' _; (have _ := fr_kp0 (by assumption) z_kp'); (have z_ne' := news_ne (by assumption) z_fr'); (have _ := news_new (by assumption) (news_kp0 (by assumption) z_kp') z_fr' z_hl'); clear z_kp' z_fr' z_hl'; (try simp only [AllNe, and_true] at z_ne'); (try k_sweep))
  k_with "subscriptTail" => (k_here; (with_reducible show wpAny _ _ (subscriptTail _ _ (Value.ref _) (Value.int _ _)) _ _ _); k_dflt ((first | (refine' item_words ?z_N ?z_m ?z_st ?z_a ?z_b ?_ ?z_e; (case z_N => k_asm); (case z_m => k_mem); (case z_st => assumption)) | (refine' item_blanks ?z_N ?z_m ?z_st ?z_a ?z_b ?_ ?z_e; (case z_N => k_asm); (case z_m => k_mem); (case z_st => exact .cons _ _ (.cons _ _ (.cons _ _ (.cons _ _ .nil)))))); (case z_a => (simp only [fm3, fm4, fm5, fm9]; omega)); (case z_b => (simp only [fm3, fm4, fm5, fm9]; omega)); (case z_e => with_unfolding_all rfl)); intro _)
  k_with "m_len" => (first | exact len_word _ | exact len_blank _ | exact len_eq | (refine' len_add (by walk_at "m_len") (by walk_at "m_len")))
  k_with "binaryOp Add str str" => (k_here; refine' PyProof.Rows.add_str ?_ ?z_sz; (case z_sz => refine' len_fit ?z_la ?z_lb ?z_lc; (case z_la => walk_at "m_len"); (case z_lb => walk_at "m_len"); (case z_lc => decide)); intro _ _)
  trivial
theorem text_spec (X : (hd.heap_1 w.params).In hb) (T : Top topProg loose mean mg mb hb) (S : hb.StaysIn s.heap) (hroom : A.depth < 900) {x : Int} {t : Tok}
    (k : ∀ h' tk t', Kp [] s.heap h' → R (.ok (.ret (.str (textOf x) t'))) { s with heap := h', toks := tk }) :
    codeAny (model Challenge.rw_mq0106_01.row.prog w) A (.call (.ref 234) ⟨[.int x t], []⟩) R s := by
  revert X; k_fill; intro X
  refine' enter (binds := [(PySem.Str.ofString "x", Value.int x t)]) X T S [] (by simp) ?k6 ?k7 ?k8 ?k9 ?kB ?_ ?c2 ?c3 ?c4 ?c5
  case k6 => k_is
  case k7 => k_is
  case k8 => k_room
  case k9 => exact BindsTo.of_eq rfl
  case kB => exact locs rfl
  case c2 => decide
  case c3 => exact rfl
  case c4 => exact rfl
  case c5 => exact rfl
  intro g' L' h' F' N' X' T' S' hg' hL' hl'
  (try dsimp only)
  k_fold
  clear X T S
  k_steps
  · rw [textOf_yes (x := x) (by assumption)] at k
    exact k _ _ _ (kp_of (by assumption) hg')
  · rw [textOf_no (x := x) (by assumption)] at k
    exact k _ _ _ (kp_of (by assumption) hg')
end
end
theorem off_M4 : True := by
  w_top off
  k_with_none
  trivial
-- M4
section
open PySem PySem.W PyProof.Rows PySem.Calls
section
variable {prog : Program} {w : World} {A : Around} {E : Value → Shared → Prop} {s : Shared} {h₀ : Heap} {L l : Addr} {m : Str → Option Value} {news news' : List (Addr × Obj)} {xs : Array Value} {n : Nat} {x : Value} {Q : Value → Shared → Prop}
theorem list_in (N : News h₀ L s.heap news) (hm : (l, listOf xs n) ∈ news) : s.heap.IsList l xs := ⟨_, (N _ hm).1, rfl, n, rfl⟩
theorem len_in (N : News h₀ L s.heap news) (hm : (l, listOf xs n) ∈ news) (hs : xs.size ≤ 10000) (h : ∀ t tk, Q (.int xs.size t) { s with toks := tk }) : wpAny (model prog w) A (PySem.call (.builtin "len") [.ref l]) Q E s :=
  Calls.call_len_list (list_in N hm) (by omega) (h _ _)
theorem append_in (F : Fr h₀ L s.heap m) (N : News h₀ L s.heap news) (U : Upd l (listOf xs n) (listOf (xs.push x) (n + 1)) news news') (hs : xs.size ≤ 10000)
    (h : ∀ h', Fr h₀ L h' m → News h₀ L h' news' → Q .none { s with heap := h' }) : wpAny (model prog w) A (PySem.call (.builtin "list.append") [.ref l, x]) Q E s :=
  append_K F N U h (by rw [sizeLine_eq]; omega)
end
section
variable {w : World} {A : Around} {s : Shared} {hb : Heap} {loose : List Str} {mean : ExcName → Option Value} {mg mb : Str → Option Value} {R : Result → Shared → Prop}
theorem kw_M4_1 : True := by
  k_with_none
  k_with "call builtin:len" => (k_here; (with_reducible show wpAny _ _ (PySem.call (Value.builtin "len") [Value.ref _]) _ _ _); k_dflt (refine' len_in ?z_N ?z_m ?z_sz ?_; (case z_N => k_asm); (case z_m => k_mem); (case z_sz => omega)); intro _ _)
  k_with "call builtin:list.append" => (k_here; (with_reducible show wpAny _ _ (PySem.call (Value.builtin "list.append") [Value.ref _, _]) _ _ _); k_dflt (refine' append_in ?z_F ?z_N ?z_U ?z_sz ?_; (case z_F => k_asm); (case z_N => k_asm); (case z_U => k_upd); (case z_sz => omega)); intro _ _ _; (try k_sweep))
  trivial
theorem noted_spec (X : (hd.heap_1 w.params).In hb) (T : Top topProg loose mean mg mb hb) (S : hb.StaysIn s.heap) (hroom : A.depth < 950) {n : Addr} {xs : Array Value} {c : Nat}
    (hn : s.heap.get? n = some (listOf xs c)) (hb0 : hb.get? n = none) (hsz : xs.size ≤ 1000)
    (k : ∀ h' tk a t, Kp [n] s.heap h' → h'.get? n = some (listOf (xs.push (.int xs.size t)) (c + 1)) → s.heap.get? a = none → h'.get? a = some (listOf #[] 0) → R (.ok (.ret (.ref a))) { s with heap := h', toks := tk }) :
    codeAny (model Challenge.rw_mq0106_01.row.prog w) A (.call (.ref 220) ⟨[.ref n], []⟩) R s := by
  revert X; k_fill; intro X
  refine' enter (binds := [(PySem.Str.ofString "notes", Value.ref n)]) X T S [(n, listOf xs c)] (by intro q hq; rw [List.mem_singleton.mp hq]; exact ⟨hn, hb0⟩) ?k6 ?k7 ?k8 ?k9 ?kB ?_ ?c2 ?c3 ?c4 ?c5
  case k6 => k_is
  case k7 => k_is
  case k8 => k_room
  case k9 => exact BindsTo.of_eq rfl
  case kB => exact locs rfl
  case c2 => decide
  case c3 => exact rfl
  case c4 => exact rfl
  case c5 => exact rfl
  intro g' L' h' F' N' X' T' S' hg' hL' hl'
  (try dsimp only)
  k_fold
  clear X T S
  k_steps
  refine k _ _ _ _ (kp_of (D := [n]) (by assumption) hg') (News.get (by assumption) (.tail _ (.head _))) (fresh_of (D := [n]) hg' (by assumption) (.head _) ?_) (News.get (by assumption) (.head _))
  exact fun q => absurd (List.mem_singleton.mp q) (Nat.ne_of_gt (by assumption))
theorem true_spec (X : (hd.heap_1 w.params).In hb) (T : Top topProg loose mean mg mb hb) (S : hb.StaysIn s.heap) (hroom : A.depth < 950) {p q : Bool} {d : Int} {t : Tok}
    (k : ∀ h' tk, Kp [] s.heap h' → R (.ok (.ret (.bool (if d = 1 then p && q else if d = 2 then p || q else if d = 3 then p && !q else p != q)))) { s with heap := h', toks := tk }) :
    codeAny (model Challenge.rw_mq0106_01.row.prog w) A (.call (.ref 253) ⟨[.bool p, .bool q, .int d t], []⟩) R s := by
  revert X; k_fill; intro X
  refine' enter (binds := [(PySem.Str.ofString "p", Value.bool p), (PySem.Str.ofString "q", Value.bool q), (PySem.Str.ofString "deed", Value.int d t)]) X T S [] (by simp) ?k6 ?k7 ?k8 ?k9 ?kB ?_ ?c2 ?c3 ?c4 ?c5
  case k6 => k_is
  case k7 => k_is
  case k8 => k_room
  case k9 => exact BindsTo.of_eq rfl
  case kB => exact locs rfl
  case c2 => decide
  case c3 => exact rfl
  case c4 => exact rfl
  case c5 => exact rfl
  intro g' L' h' F' N' X' T' S' hg' hL' hl'
  (try dsimp only)
  k_fold
  clear X T S
  k_steps
  all_goals refine Eq.mp (congrArg (fun b => R (.ok (.ret (.bool b))) _) ?_) (k _ _ (kp_of (by assumption) hg'))
  all_goals simp_all
end
end
theorem off_M5 : True := by
  w_top off
  k_with_none
  trivial
-- M5
section
open PySem PySem.W PyProof.Rows PySem.Calls
/-- the items of a made list, each with the objects that it brought -/
inductive GL (G : Value → Value → List (Addr × Obj) → Prop) : List Value → List Value → List (Addr × Obj) → Prop
  | nil : GL G [] [] []
  | snoc {vs ys os v y o} : GL G vs ys os → G v y o → GL G (vs ++ [v]) (ys ++ [y]) (os ++ o)
theorem GL.length {G : Value → Value → List (Addr × Obj) → Prop} {vs ys : List Value} {os : List (Addr × Obj)} (x : GL G vs ys os) : ys.length = vs.length := by
  induction x with
  | nil => rfl
  | snoc _ _ ih => simp [ih]
section
variable {prog : Program} {w : World} {A : Around} {E : Value → Shared → Prop} {R : Result → Shared → Prop} {s : Shared} {env : Env}
theorem isList_plain {h : Heap} {D : Addr} {ys : Array Value} {n : Nat} (e : h.get? D = some (listOf ys n)) : h.PlainList D ys := ⟨n, e⟩
noncomputable abbrev testsOf (ifs : List Expr) (cenv : Env) : Sem Bool := forIn ifs true fun c r => if r = true then do let ok ← isTrue c cenv (eval c cenv); pure (ForInStep.yield ok) else pure (ForInStep.yield r)
/-- between two turns of it -/
inductive CInv (s : Shared) (n : Nat) (D : Addr) (Cs wr : List Addr) (P : Nat → Value → Prop) (St : Nat → Heap → Prop) (p : Value → Bool) (G : Value → Value → List (Addr × Obj) → Prop) (Bd : Option Value → Heap → Prop) (k : Nat) (s' : Shared) : Prop
  | mk (h' : Heap) (tk : Tok) (ys : List Value) (os : List (Addr × Obj)) (u : Option Value) (vs : List Value) (_ : s' = { s with heap := h', toks := tk }) (_ : St vs.length h') (_ : h'.PlainList D ys.toArray) (_ : Bd u h')
    (_ : ∀ j v, vs[j]? = some v → P j v) (_ : GL G (vs.filter p) ys os) (_ : ∀ q ∈ os, (h'.get? q.1 = some q.2 ∧ s.heap.get? q.1 = none) ∧ q.1 ∉ Cs ∧ q.1 ∉ wr ∧ q.1 ≠ D) (_ : vs.length ≤ n) (_ : k = n + 1 - vs.length)
    (_ : ∀ b o, b ∉ Cs → b ∉ wr → b ≠ D → s.heap.get? b = some o → h'.get? b = some o)
/-- the loop of a comprehension whose tests and element make new objects alone -/
theorem comp_loop {elt iter target : Expr} {ifs : List Expr} {scope : Scope} {pos : Pos} {I D : Addr} {fp wr : List Addr} {n : Nat} {P : Nat → Value → Prop} {St : Nat → Heap → Prop} {cenv : Env}
    (W : Walks prog w A I fp wr n P St) (p : Value → Bool) (G : Value → Value → List (Addr × Obj) → Prop) (Cs : List Addr) (Bd : Option Value → Heap → Prop)
    (hBd : ∀ v h h', Bd v h → (∀ b ∈ Cs, ∀ o, h.get? b = some o → h'.get? b = some o) → Bd v h')
    (hlive : ∀ v h, Bd v h → ∀ c ∈ Cs, ∃ o, h.get? c = some o) (hliveW : ∀ i h, St i h → ∀ b ∈ wr, ∃ o, h.get? b = some o)
    (hasg : ∀ u v s Q E, Bd u s.heap → (∀ h' tk, Bd (some v) h' → (∀ b o, b ∉ Cs → s.heap.get? b = some o → h'.get? b = some o) → Q () { s with heap := h', toks := tk }) → wpAny (model prog w) A (assign target cenv v) Q E s)
    (hDC : D ∉ Cs) (hDf : D ∉ fp) (hCf : ∀ c ∈ Cs, c ∉ fp) (hst : St 0 s.heap) (hacc : s.heap.PlainList D #[]) (hbd : Bd none s.heap)
    (htests : ∀ i v h tk E', i < n → P i v → Bd (some v) h → (∀ b o, b ∉ Cs → b ∉ wr → b ≠ D → s.heap.get? b = some o → h.get? b = some o) →
      wpAny (model prog w) A (testsOf ifs cenv) (fun ok s₃ => ok = p v ∧ Keeps { s with heap := h, toks := tk } s₃) E' { s with heap := h, toks := tk })
    (helt : ∀ i v h tk E', i < n → P i v → p v = true → Bd (some v) h → (∀ b o, b ∉ Cs → b ∉ wr → b ≠ D → s.heap.get? b = some o → h.get? b = some o) →
      wpAny (model prog w) A (eval elt cenv) (fun y s₃ => Keeps { s with heap := h, toks := tk } s₃ ∧ ∃ os, G v y os ∧ ∀ q ∈ os, h.get? q.1 = none ∧ s₃.heap.get? q.1 = some q.2) E' { s with heap := h, toks := tk })
    (hR : ∀ h' tk ys (vs : List Value) os, (∃ u, Bd u h') → h'.PlainList D ys.toArray → vs.length = n → (∀ j v, vs[j]? = some v → P j v) → GL G (vs.filter p) ys os → (∀ q ∈ os, h'.get? q.1 = some q.2 ∧ s.heap.get? q.1 = none) →
      (∀ b o, b ∉ Cs → b ∉ wr → b ≠ D → s.heap.get? b = some o → h'.get? b = some o) → (∀ q ∈ os, q.1 ∉ Cs ∧ q.1 ∉ wr ∧ q.1 ≠ D) → R (.ok .next) { s with heap := h', toks := tk })
    (hsz : n ≤ sizeLine) (ht : ∀ v, letOwnedTupleGo target (.ref I) v = pure ()) :
    codeAny (model prog w) A (.compLoop (.ListComp elt [⟨target, iter, ifs, 0⟩] scope pos) 0 (.ref I) (.ref D) cenv) R s := by
  obtain ⟨Inv, mkI, ofI⟩ : ∃ Inv : Nat → Shared → Prop, (∀ k s', CInv s n D Cs wr P St p G Bd k s' → Inv k s') ∧ ∀ k s', Inv k s' → CInv s n D Cs wr P St p G Bd k s' := ⟨_, fun _ _ x => x, fun _ _ x => x⟩
  refine codeAny_compLoop_tests Inv ?_ (n + 1) (mkI _ _ ⟨s.heap, s.toks, [], [], none, [], rfl, hst, hacc, hbd, by simp, .nil, by simp, Nat.zero_le _, rfl, fun _ _ _ _ _ e => e⟩) ht
  intro k s' hI
  obtain ⟨H, tk, ys, os, u, vs, rfl, hst', hacc', hb', hP, hF, hos, hi, rfl, hk⟩ := ofI _ _ hI
  have hCw : ∀ c ∈ Cs, c ∉ wr := fun c hc h => hCf c hc (W.sub _ h)
  have hDw : D ∉ wr := fun h => hDf (W.sub _ h)
  by_cases hlt : vs.length < n
  · refine W.item vs.length _ _ _ hlt hst' fun v h₁ tk₁ hPv hst₁ hk₁ => ?_
    refine hasg u v _ _ _ (hBd _ _ _ hb' fun b hb o e => hk₁ b o (hCw b hb) e) fun h₂ tk₂ hb₂ hk₂ => ?_
    have up₂ : ∀ b o, b ∉ Cs → b ∉ wr → H.get? b = some o → h₂.get? b = some o := fun b o hbC hbf e => hk₂ b o hbC (hk₁ b o hbf e)
    have hst₂ : St (vs.length + 1) h₂ := W.frame _ _ _ hst₁ fun b hb o e => hk₂ b o (fun h => hCf b h hb) e
    refine wpAny_mono (htests vs.length v h₂ tk₂ _ hlt hPv hb₂ (fun b o hbC hbf hbD e => up₂ b o hbC hbf (hk b o hbC hbf hbD e))) (fun ok s₃ h₃ => ?_) fun _ _ e => e
    obtain ⟨rfl, h₃, tk₃, rfl, hk₃⟩ := h₃
    have hst₃ : St (vs.length + 1) h₃ := W.frame _ _ _ hst₂ fun b _ o e => hk₃ b o e
    have hacc₃ : h₃.PlainList D ys.toArray := hacc'.at fun o e => hk₃ _ o (up₂ D o hDC hDw e)
    have hb₃ := hBd _ _ _ hb₂ fun b _ o e => hk₃ b o e
    have hos₃ : ∀ q ∈ os, (h₃.get? q.1 = some q.2 ∧ s.heap.get? q.1 = none) ∧ q.1 ∉ Cs ∧ q.1 ∉ wr ∧ q.1 ≠ D := fun q hq =>
      ⟨⟨hk₃ _ _ (up₂ _ _ (hos q hq).2.1 (hos q hq).2.2.1 (hos q hq).1.1), (hos q hq).1.2⟩, (hos q hq).2⟩
    have hP' : ∀ j u, (vs ++ [v])[j]? = some u → P j u := fun j u hj => by
      rcases Nat.lt_trichotomy j vs.length with h | h | h
      · exact hP j u (by rwa [List.getElem?_append_left h] at hj)
      · subst h; simp at hj; subst hj; exact hPv
      · have hnone : (vs ++ [v])[j]? = none := List.getElem?_eq_none (by rw [List.length_append, List.length_singleton]; omega)
        rw [hnone] at hj; cases hj
    have hlen : (vs ++ [v]).length = vs.length + 1 := by rw [List.length_append, List.length_singleton]
    cases hpv : p v with
    | false =>
      simp only [Bool.false_eq_true, if_false]
      refine ⟨n + 1 - (vs.length + 1), by omega, mkI _ _ ⟨h₃, tk₃, ys, os, _, vs ++ [v], rfl, hlen ▸ hst₃, hacc₃, hb₃, hP', ?_, hos₃, by omega, by omega, fun b o hbC hbf hbD e => hk₃ b o (up₂ b o hbC hbf (hk b o hbC hbf hbD e))⟩⟩
      rw [List.filter_append]; simpa [hpv] using hF
    | true =>
      simp only [if_true]
      refine wpAny_mono (helt vs.length v h₃ tk₃ _ hlt hPv hpv hb₃ (fun b o hbC hbf hbD e => hk₃ b o (up₂ b o hbC hbf (hk b o hbC hbf hbD e)))) (fun y s₄ h₄ => ?_) fun _ _ e => e
      obtain ⟨⟨h₄, tk₄, rfl, hk₄⟩, os', hG, hos'⟩ := h₄
      have hys : ys.toArray.size ≤ sizeLine := by
        have e1 := hF.length
        have e2 : (vs.filter p).length ≤ vs.length := List.length_filter_le _ _
        rw [List.size_toArray]; omega
      refine wpAny_list_append_plain (hsz := hys) (hacc₃.at fun o e => hk₄ _ o e) fun h₅ hl₅ hs₅ => ?_
      obtain ⟨nD, hD₃⟩ := hacc₃
      refine ⟨n + 1 - (vs.length + 1), by omega, mkI _ _ ⟨h₅, tk₄, ys ++ [y], os ++ os', some v, vs ++ [v], rfl, ?_, ?_, hBd _ _ _ hb₃ fun b hb o e => hs₅.extBut b o (fun q => hDC (q ▸ hb)) (hk₄ b o e), hP', ?_, ?_, by omega, by omega,
        fun b o hbC hbf hbD e => hs₅.extBut b o hbD (hk₄ b o (hk₃ b o (up₂ b o hbC hbf (hk b o hbC hbf hbD e))))⟩⟩
      · rw [hlen]; exact W.frame _ _ _ hst₃ fun b hb o e => hs₅.extBut b o (fun h => hDf (h ▸ hb)) (hk₄ b o e)
      · have e : ys.toArray.push y = (ys ++ [y]).toArray := by simp
        rw [← e]; exact hl₅
      · rw [List.filter_append]; simp only [List.filter_cons, hpv, if_true, List.filter_nil]; exact .snoc hF hG
      · intro q hq
        rcases List.mem_append.mp hq with hq | hq
        · exact ⟨⟨hs₅.extBut _ _ (hos₃ q hq).2.2.2 (hk₄ _ _ (hos₃ q hq).1.1), (hos₃ q hq).1.2⟩, (hos₃ q hq).2⟩
        · have nC : q.1 ∉ Cs := fun hc => by obtain ⟨o, e⟩ := hlive _ _ hb₃ _ hc; rw [(hos' q hq).1] at e; cases e
          have nW : q.1 ∉ wr := fun hc => by obtain ⟨o, e⟩ := hliveW _ _ hst₃ _ hc; rw [(hos' q hq).1] at e; cases e
          have nD' : q.1 ≠ D := fun hc => by have := (hos' q hq).1; rw [hc, hD₃] at this; cases this
          refine ⟨⟨hs₅.extBut _ _ nD' (hos' q hq).2, ?_⟩, nC, nW, nD'⟩
          cases z : s.heap.get? q.1 with
          | none => rfl
          | some o => have := hk₃ _ o (up₂ _ _ nC nW (hk _ _ nC nW nD' z)); rw [(hos' q hq).1] at this; cases this
  · have hin : vs.length = n := by omega
    refine W.done _ _ _ (hin ▸ hst') fun h₁ tk₁ hk₁ => ?_
    exact hR h₁ tk₁ ys vs os ⟨u, hBd _ _ _ hb' fun b hb o e => hk₁ b o (hCw b hb) e⟩ (hacc'.at fun o e => hk₁ _ o hDw e) hin hP hF (fun q hq => ⟨hk₁ _ _ (hos q hq).2.2.1 (hos q hq).1.1, (hos q hq).1.2⟩)
      (fun b o hbC hbf hbD e => hk₁ b o hbf (hk b o hbC hbf hbD e)) fun q hq => (hos q hq).2
end
end
theorem off_M6 : True := by
  w_top off
  k_with_none
  trivial
-- M6
section
open PySem PySem.W PyProof.Rows PySem.Calls
section
variable {prog : Program} {w : World} {A : Around} {E : Value → Shared → Prop} {R : Result → Shared → Prop} {s : Shared} {env : Env}
/-- what a comprehension over an iterator wants: its walk, its tests, its element, its end -/
inductive CompNeed (prog : Program) (w : World) (A : Around) (env : Env) (scope : Scope) (cl : List (Str × Addr)) (x : Str) (ifs : List Expr) (elt : Expr) (p : Value → Bool) (G : Value → Value → List (Addr × Obj) → Prop)
    (ex : List Addr) (Ex : Addr → Heap → Prop) (done : Addr → Shared → Prop) (it : Value) (s₂ : Shared) : Prop
  | mk (I : Addr) (fp wr : List Addr) (n : Nat) (P : Nat → Value → Prop) (St : Nat → Heap → Prop) (_ : it = .ref I) (_ : Walks prog w A I fp wr n P St) (_ : n ≤ sizeLine) (_ : St 0 s₂.heap) (_ : ∀ i h, St i h → ∀ b ∈ wr, ∃ o, h.get? b = some o) (_ : ∀ b ∈ fp, b < s₂.heap.objs.size) (_ : ∀ b ∈ ex, b ∉ wr ∧ ∃ o, s₂.heap.get? b = some o) (_ : ∀ C i v h tk E' m', i < n → P i v → s₂.heap.objs.size ≤ C → h.Ns C m' → m' x = some v → (∀ b o, b ∉ wr → s₂.heap.get? b = some o → h.get? b = some o) →
      wpAny (model prog w) A (testsOf ifs (compEnvC scope cl C env)) (fun ok s₃ => ok = p v ∧ Keeps { s₂ with heap := h, toks := tk } s₃) E' { s₂ with heap := h, toks := tk }) (_ : ∀ C i v h tk E' m', i < n → P i v → p v = true → s₂.heap.objs.size ≤ C → h.Ns C m' → m' x = some v → (∀ b o, b ∉ wr → s₂.heap.get? b = some o → h.get? b = some o) →
      wpAny (model prog w) A (eval elt (compEnvC scope cl C env)) (fun y s₃ => Keeps { s₂ with heap := h, toks := tk } s₃ ∧ ∃ os, G v y os ∧ ∀ q ∈ os, h.get? q.1 = none ∧ s₃.heap.get? q.1 = some q.2) E' { s₂ with heap := h, toks := tk }) (_ : ∀ h' tk D ys (vs : List Value) os nD, s₂.heap.get? D = none → h'.get? D = some (listOf ys.toArray nD) → vs.length = n → (∀ j v, vs[j]? = some v → P j v) → GL G (vs.filter p) ys os →
      (∀ q ∈ os, h'.get? q.1 = some q.2 ∧ s₂.heap.get? q.1 = none ∧ q.1 ≠ D) → (∀ b o, b ∉ wr → b ∉ ex → s₂.heap.get? b = some o → h'.get? b = some o) → Ex D h' → done D { s₂ with heap := h', toks := tk })
theorem comp_block {elt iter : Expr} {x : Str} {px : Pos} {ifs : List Expr} {scope : Scope} {cl : List (Str × Addr)} {pos : Pos} {s₂ : Shared} {p : Value → Bool} {G : Value → Value → List (Addr × Obj) → Prop} {ex : List Addr} {Ex : Addr → Heap → Prop} {done : Addr → Shared → Prop} {it : Value}
    {RR : Value → Addr → Result → Shared → Prop}
    (hcell : ∀ y ∈ scope.names, y.2 ≠ .cell) (hkind : scope.kind = .function) (hx : scope.names.lookup x = some .local) (N : CompNeed prog w A env scope cl x ifs elt p G ex Ex done it s₂)
    (hRR : ∀ D C h' tk m' nD ys, s₂.heap.get? D = none → s₂.heap.get? C = none → D ≠ C → h'.Ns C m' → h'.get? D = some (listOf ys nD) → (∀ h'' tk'', (∀ b o, b ≠ C → b ∉ ex → h'.get? b = some o → h''.get? b = some o) → Ex D h'' → done D { s₂ with heap := h'', toks := tk'' }) → (∀ b ∈ ex, ∀ o, s₂.heap.get? b = some o → h'.get? b = some o) →
      RR (.ref D) C (.ok .next) { s₂ with heap := h', toks := tk }) :
    wpAny (model prog w) A (newList []) (fun acc s₃ => wpAny (model prog w) A (newFunctionEnv scope env.globals cl [] env.qual none .none (some env)) (fun cenv s₄ =>
      codeAny (model prog w) A (.compStart (.ListComp elt [⟨.Name x px, iter, ifs, 0⟩] scope pos) 0 it acc { cenv with scope := relabel scope env }) (RR acc cenv.locals) s₄) E s₃) E s₂ := by
  obtain ⟨I, fp, wr, n, P, St, rfl, W, hsz, hst, hlw, hfp, hex, htests, helt, hdone⟩ := N
  refine wpAny_newObj_type (wpAny_newFunctionEnv hcell (by intro y hy; simp at hy) (fun h₁ hns₁ hsb₁ => ?_) hkind)
  dsimp only at hns₁ hsb₁ ⊢
  generalize hH2 : s₂.heap.push { cls := .type "list", dict := none, data := .seq ([] : List Value).toArray } = H2 at hns₁ hsb₁ ⊢
  have hC : H2.objs.size = s₂.heap.objs.size + 1 := by rw [← hH2, Heap.size_push]
  have hDC : s₂.heap.objs.size ≠ H2.objs.size := by rw [hC]; exact Nat.ne_of_lt (Nat.lt_succ_self _)
  have below : ∀ b, b < s₂.heap.objs.size → b ≠ H2.objs.size ∧ b ≠ s₂.heap.objs.size := fun b hb => ⟨by rw [hC]; exact Nat.ne_of_lt (Nat.lt_succ_of_lt hb), Nat.ne_of_lt hb⟩
  have hDf : s₂.heap.objs.size ∉ fp := fun hm => Nat.lt_irrefl _ (hfp _ hm)
  have hCf : H2.objs.size ∉ fp := fun hm => by have := hfp _ hm; rw [hC] at this; exact Nat.lt_irrefl _ (Nat.lt_of_succ_lt this)
  have old : ∀ b o, s₂.heap.get? b = some o → h₁.get? b = some o := fun b o e => hsb₁.extBut b o (below b (Heap.lt_size e)).1 (Heap.get?_push_of_some _ (hH2 ▸ Heap.get?_push_of_some _ e))
  have hacc : h₁.PlainList s₂.heap.objs.size #[] := ⟨_, hsb₁.extBut _ _ hDC (Heap.get?_push_of_some _ (hH2 ▸ Heap.get?_push_size _ rfl))⟩
  have hst₁ : St 0 h₁ := W.frame _ _ _ hst fun b _ o e => old b o e
  have fresh : ∀ a, s₂.heap.objs.size ≤ a → s₂.heap.get? a = none := fun a ha => by
    cases e : s₂.heap.get? a with
    | none => rfl
    | some o' => exact absurd (Heap.lt_size e) (Nat.not_lt.mpr ha)
  have hD0 := fresh _ (Nat.le_refl s₂.heap.objs.size)
  have hCle : s₂.heap.objs.size ≤ H2.objs.size := by rw [hC]; exact Nat.le_succ _
  have hC0 := fresh H2.objs.size (by rw [hC]; exact Nat.le_succ _)
  have keep : ∀ h : Heap, (∀ b o, b ∉ [H2.objs.size] → b ∉ wr → b ≠ s₂.heap.objs.size → h₁.get? b = some o → h.get? b = some o) → ∀ b o, b ∉ wr → s₂.heap.get? b = some o → h.get? b = some o := fun h k b o hbf e =>
    k b o (fun q => (below b (Heap.lt_size e)).1 (List.mem_singleton.mp q)) hbf (below b (Heap.lt_size e)).2 (old b o e)
  have loop : ∀ s₃ : Shared, s₃ = { s₂ with heap := h₁, toks := s₂.toks + ([] : List (Str × Value)).length } →
      codeAny (model prog w) A (.compLoop (.ListComp elt [⟨.Name x px, iter, ifs, 0⟩] scope pos) 0 (.ref I) (.ref s₂.heap.objs.size) (compEnvC scope cl H2.objs.size env))
        (RR (.ref s₂.heap.objs.size) H2.objs.size) s₃ := by
    rintro s₃ rfl
    refine comp_loop (cenv := compEnvC scope cl H2.objs.size env) W p G [H2.objs.size] (fun u h => ∃ m', h.Ns H2.objs.size m' ∧ ∀ v, u = some v → m' x = some v) ?_ ?_ hlw ?_ (by simpa using hDC) hDf (by simpa using hCf) hst₁ hacc ⟨_, hns₁, by simp⟩ ?_ ?_ ?_ hsz (fun _ => rfl)
    · rintro u h h' ⟨m', hn, hm⟩ k
      exact ⟨m', hn.at' fun o e => k _ (by simp) o e, hm⟩
    · rintro u h ⟨m', ⟨o, _, _, e, _⟩, _⟩ c hc
      exact ⟨o, List.mem_singleton.mp hc ▸ e⟩
    · rintro u v s Q E ⟨m', hn, hm⟩ k
      refine wpAny_assign_Name (wpAny_storeName_local (env := compEnvC scope cl H2.objs.size env) (lookup_relabel_local hx) hn (fun h₂ hn₂ hs₂ => ?_) (by simp [compEnvC, relabel, hkind]))
      exact k h₂ _ ⟨_, hn₂, fun v' e => by cases e; simp⟩ fun b o hb e => hs₂.extBut b o (fun q => hb (List.mem_singleton.mpr q)) e
    · rintro i v h tk E' hi hP ⟨m', hn, hm⟩ k
      exact htests _ i v h tk E' m' hi hP hCle hn (hm v rfl) (keep h k)
    · rintro i v h tk E' hi hP hp ⟨m', hn, hm⟩ k
      exact helt _ i v h tk E' m' hi hP hp hCle hn (hm v rfl) (keep h k)
    · rintro h' tk ys vs os ⟨u, m', hn, hm⟩ ⟨nD, hD⟩ hlen hP hG hos k hoff
      refine hRR _ _ h' tk m' nD ys.toArray hD0 hC0 hDC hn hD (fun h'' tk'' hs'' hE => ?_) fun b hb o e => keep h' k b o (hex b hb).1 e
      have nex : ∀ b, s₂.heap.get? b = none → b ∉ ex := fun b e q => by obtain ⟨o, e'⟩ := (hex b q).2; rw [e] at e'; cases e'
      refine hdone h'' tk'' _ ys vs os nD hD0 (hs'' _ _ hDC (nex _ hD0) hD) hlen hP hG (fun q hq => ?_) (fun b o hbf hbx e => hs'' b o (by rintro rfl; rw [hC0] at e; cases e) hbx (keep h' k b o hbf e)) hE
      obtain ⟨a, b, c⟩ := hoff q hq
      have z : s₂.heap.get? q.1 = none := by
        cases z : s₂.heap.get? q.1 with
        | none => rfl
        | some o => have := old _ _ z; rw [(hos q hq).2] at this; cases this
      exact ⟨hs'' _ _ (by simpa using a) (nex _ z) (hos q hq).1, z, c⟩
  exact codeAny_compStart_list (loop _ rfl) (W.self 0 _ _ _ hst₁ (loop _ rfl))
theorem comp_eval {s : Shared} {elt iter : Expr} {x : Str} {px : Pos} {ifs : List Expr} {scope : Scope} {cl : List (Str × Addr)} {pos : Pos} {Q : Value → Shared → Prop} (p : Value → Bool) (G : Value → Value → List (Addr × Obj) → Prop)
    (hclos : closureFor scope env = pure cl) (hcell : ∀ y ∈ scope.names, y.2 ≠ .cell) (hkind : scope.kind = .function)
    (hnames : ∀ y ∈ scope.names, y.2 = .local → scope.names.lookup y.1 = some .local) (hx : scope.names.lookup x = some .local)
    (h : wpAny (model prog w) A (eval iter env) (fun xv s₁ => wpAny (model prog w) A (pyIter xv) (fun it s₂ => CompNeed prog w A env scope cl x ifs elt p G [] (fun _ _ => True) (fun D s' => Q (.ref D) s') it s₂) E s₁) E s)
    (hs : ∀ x, foldedSetIterable iter env x = pure x := by intro _; rfl) :
    wpAny (model prog w) A (eval (.ListComp elt [⟨.Name x px, iter, ifs, 0⟩] scope pos) env) Q E s := by
  rw [eval_ListComp]
  refine wpAny_comprehension_free (use := none) rfl hs hclos hkind hnames (wpAny_mono h (fun xv s₁ h₁ => wpAny_mono h₁ (fun it s₂ h₂ => ?_) fun _ _ e => e) fun _ _ e => e)
  exact comp_block (RR := fun acc C => compPost (model prog w) A E none Q acc C) hcell hkind hx h₂ fun D C h' tk m' nD ys hD hC hDC hn hl hd hk => ⟨m', hn, fun h'' hs'' => hd h'' tk (fun b o hb _ e => hs''.extBut b o hb e) trivial⟩
theorem comp_assign {s : Shared} {elt iter : Expr} {x y : Str} {px py : Pos} {ifs : List Expr} {scope : Scope} {cl : List (Str × Addr)} {pos spos : Pos} {Q : Flow → Shared → Prop} {m : Str → Option Value} (p : Value → Bool) (G : Value → Value → List (Addr × Obj) → Prop)
    (hsw : swapsWith (.ListComp elt [⟨.Name x px, iter, ifs, 0⟩] scope pos) (some (.Name y py)) spos.line env = pure true)
    (hclos : closureFor scope env = pure cl) (hcell : ∀ z ∈ scope.names, z.2 ≠ .cell) (hkind : scope.kind = .function)
    (hnames : ∀ z ∈ scope.names, z.2 = .local → scope.names.lookup z.1 = some .local) (hx : scope.names.lookup x = some .local)
    (hy : env.kindOf y = some .local) (hp : (env.scope.kind == .class || (env.scope.kind == .module && env.locals != env.globals)) = false)
    (h : wpAny (model prog w) A (eval iter env) (fun xv s₁ => wpAny (model prog w) A (pyIter xv) (fun it s₂ => s₂.heap.Ns env.locals m ∧ CompNeed prog w A env scope cl x ifs elt p G
      [env.locals] (fun D h => h.Ns env.locals (fun z => if z = y then some (.ref D) else m z)) (fun _ s' => Q .next s') it s₂) E s₁) E s)
    (hs : ∀ x, foldedSetIterable iter env x = pure x := by intro _; rfl) :
    wpAny (model prog w) A (exec (.Assign [.Name y py] (.ListComp elt [⟨.Name x px, iter, ifs, 0⟩] scope pos) spos) env) Q E s := by
  rw [exec_Assign_Name_used _ _ _ _ hsw]
  refine wpAny_bind (wpAny_standAt (wpAny_bind ?_))
  show wpAny _ A (do let _ ← comprehension (.ListComp elt [⟨.Name x px, iter, ifs, 0⟩] scope pos) scope env _ (newList []) false (eval iter env) (some (assign (.Name y py) env))) _ _ s
  refine wpAny_bind (wpAny_mono (wpAny_comprehension_free (use := some (assign (.Name y py) env)) (Q := fun _ s' => Q .next s') rfl hs hclos hkind hnames
    (wpAny_mono h (fun xv s₁ h₁ => wpAny_mono h₁ (fun it s₂ h₂ => ?_) fun _ _ e => e) fun _ _ e => e)) (fun _ s' hq => wpAny_pure (wpAny_pure hq)) fun _ _ e => e)
  obtain ⟨hn, h₂⟩ := h₂
  refine comp_block (RR := fun acc C => compPost (model prog w) A E (some (assign (.Name y py) env)) (fun _ s' => Q .next s') acc C) hcell hkind hx h₂ fun D C h' tk m' nD ys hD hC hDC hnC hl hd hk => ?_
  have hLC : env.locals ≠ C := by rintro rfl; obtain ⟨o, _, _, ho, _⟩ := hn; rw [hC] at ho; cases ho
  have hLD : env.locals ≠ D := by rintro rfl; obtain ⟨o, _, _, ho, _⟩ := hn; rw [hD] at ho; cases ho
  show wpAny _ A (assign (.Name y py) env (.ref D)) _ _ _
  refine wpAny_assign_Name (wpAny_storeName_local hy (hn.at' fun o e => hk _ (List.mem_singleton.mpr rfl) o e) (fun h₂ hn₂ hs₂ => ?_) hp)
  refine ⟨m', hnC.sameBut hs₂ (Ne.symm hLC), fun h₃ hs₃ => ?_⟩
  exact hd h₃ _ (fun b o hb hx e => hs₃.extBut b o hb (hs₂.extBut b o (fun q => hx (List.mem_singleton.mpr q)) e)) (hn₂.sameBut hs₃ hLC)
end
end
theorem off_M7 : True := by
  w_top off
  k_with_none
  trivial
-- M7
section
open PySem PySem.W PyProof.Rows PySem.Calls
section
variable {prog : Program} {w : World} {A : Around} {E : Value → Shared → Prop} {s : Shared} {env : Env} {scope : Scope} {cl : List (Str × Addr)} {x : Str} {ifs : List Expr} {elt : Expr} {p : Value → Bool} {G : Value → Value → List (Addr × Obj) → Prop}
  {ex : List Addr} {Ex : Addr → Heap → Prop} {done : Addr → Shared → Prop}
theorem push_none {h : Heap} {o : Obj} {C : Addr} (e : (h.push o).get? C = none) : h.get? C = none := by
  cases z : h.get? C with
  | none => rfl
  | some o' => rw [Heap.get?_push_of_some _ z] at e; cases e
theorem list_eq_of {α : Type} {vs us : List α} (hl : us.length = vs.length) (h : ∀ (j : Nat) v, us[j]? = some v → vs[j]? = some v) : us = vs := by
  apply List.ext_getElem? fun j => ?_
  cases e : us[j]? with
  | some v => exact (h j v e).symm
  | none => rw [List.getElem?_eq_none_iff] at e; rw [List.getElem?_eq_none (by omega)]
theorem need_list (hh : A.handled = none) {l : Addr} {vs : List Value} (hl : s.heap.IsList l vs.toArray) (hsz : vs.length ≤ 100000) (hex : ∀ b ∈ ex, ∃ o, s.heap.get? b = some o)
    (tests : ∀ C (i : Nat) v h tk E' m', vs[i]? = some v → Fr s.heap C h m' → m' x = some v →
      wpAny (model prog w) A (testsOf ifs (compEnvC scope cl C env)) (fun ok s₃ => ok = p v ∧ Keeps { s with heap := h, toks := tk } s₃) E' { s with heap := h, toks := tk })
    (helt : ∀ C (i : Nat) v h tk E' m', vs[i]? = some v → p v = true → Fr s.heap C h m' → m' x = some v →
      wpAny (model prog w) A (eval elt (compEnvC scope cl C env)) (fun y s₃ => Keeps { s with heap := h, toks := tk } s₃ ∧ ∃ os, G v y os ∧ ∀ q ∈ os, h.get? q.1 = none ∧ s₃.heap.get? q.1 = some q.2) E' { s with heap := h, toks := tk })
    (hdone : ∀ h' tk D ys os nD, s.heap.get? D = none → h'.get? D = some (listOf ys.toArray nD) → GL G (vs.filter p) ys os → (∀ q ∈ os, h'.get? q.1 = some q.2 ∧ s.heap.get? q.1 = none ∧ q.1 ≠ D) → Kp ex s.heap h' → Ex D h' → done D { s with heap := h', toks := tk }) :
    wpAny (model prog w) A (pyIter (.ref l)) (fun it s₂ => CompNeed prog w A env scope cl x ifs elt p G ex Ex done it s₂) E s := by
  have hlt : l < s.heap.objs.size := by obtain ⟨o, e, _⟩ := hl; exact Heap.lt_size e
  refine wpAny_pyIter_list hl ?_
  have st : ∀ (o : Obj) (h : Heap), (∀ b o', b ∉ [s.heap.objs.size] → (s.heap.push o).get? b = some o' → h.get? b = some o') → s.heap.StaysIn h := fun o h k b o' e =>
    k b o' (fun q => Nat.ne_of_lt (Heap.lt_size e) (List.mem_singleton.mp q)) (Heap.get?_push_of_some _ e)
  have le : ∀ {o : Obj} (C : Addr), (s.heap.push o).objs.size ≤ C → s.heap.objs.size ≤ C := fun C q => by rw [Heap.size_push] at q; exact Nat.le_of_succ_le q
  refine ⟨_, _, _, _, _, _, rfl, Walks.list hh s.heap.objs.size l (Nat.ne_of_lt hlt) vs.toArray, by rw [List.size_toArray, sizeLine_eq]; omega, ⟨⟨_, Heap.get?_push_size _ rfl, rfl, rfl⟩, hl.at fun o e => Heap.get?_push_of_some _ e⟩, ?_, ?_, ?_, ?_, ?_, ?_⟩
  · rintro i h ⟨⟨o, e, _⟩, _⟩ b hb
    exact ⟨o, List.mem_singleton.mp hb ▸ e⟩
  · intro b hb
    rw [Heap.size_push]
    rcases List.mem_cons.mp hb with rfl | hb
    · exact Nat.lt_succ_self _
    · rw [List.mem_singleton.mp hb]; exact Nat.lt_succ_of_lt hlt
  · intro b hb
    obtain ⟨o, e⟩ := hex b hb
    exact ⟨fun q => Nat.ne_of_lt (Heap.lt_size e) (List.mem_singleton.mp q), o, Heap.get?_push_of_some _ e⟩
  · intro C i v h tk E' m' hi hP hC hn hm k
    exact tests C i v h tk E' m' (by simpa using hP) ⟨hn, st _ h k, le _ hC⟩ hm
  · intro C i v h tk E' m' hi hP hp hC hn hm k
    exact helt C i v h tk E' m' (by simpa using hP) hp ⟨hn, st _ h k, le _ hC⟩ hm
  · intro h' tk D ys us os nD hD hD' hlen hP hG hos k hE
    have e : us = vs := list_eq_of (by simpa using hlen) fun j v hj => by simpa using hP j v hj
    subst e
    exact hdone h' tk D ys os nD (push_none hD) hD' hG (fun q hq => ⟨(hos q hq).1, push_none (hos q hq).2.1, (hos q hq).2.2⟩)
      (fun b o hb e => k b o (fun q => Nat.ne_of_lt (Heap.lt_size e) (List.mem_singleton.mp q)) hb (Heap.get?_push_of_some _ e)) hE
/-- the ints from 0 below n, as the range hands them on, their tokens unknown -/
noncomputable def RangeVals (n : Nat) (vs : List Value) : Prop := vs.length = n ∧ ∀ (j : Nat) v, vs[j]? = some v → ∃ t, v = .int (j : Nat) t
theorem need_range (hh : A.handled = none) {r : Addr} {n : Nat} {t u v₀ : Tok} (hr : IsRange s.heap r 0 n 1 t u v₀) (hsz : n ≤ 100000) (hex : ∀ b ∈ ex, ∃ o, s.heap.get? b = some o)
    (tests : ∀ C (i : Nat) t' h tk E' m', i < n → Fr s.heap C h m' → m' x = some (.int i t') →
      wpAny (model prog w) A (testsOf ifs (compEnvC scope cl C env)) (fun ok s₃ => ok = p (.int i t') ∧ Keeps { s with heap := h, toks := tk } s₃) E' { s with heap := h, toks := tk })
    (helt : ∀ C (i : Nat) t' h tk E' m', i < n → p (.int i t') = true → Fr s.heap C h m' → m' x = some (.int i t') →
      wpAny (model prog w) A (eval elt (compEnvC scope cl C env)) (fun y s₃ => Keeps { s with heap := h, toks := tk } s₃ ∧ ∃ os, G (.int i t') y os ∧ ∀ q ∈ os, h.get? q.1 = none ∧ s₃.heap.get? q.1 = some q.2) E' { s with heap := h, toks := tk })
    (hdone : ∀ h' tk D ys vs os nD, s.heap.get? D = none → h'.get? D = some (listOf ys.toArray nD) → RangeVals n vs → GL G (vs.filter p) ys os → (∀ q ∈ os, h'.get? q.1 = some q.2 ∧ s.heap.get? q.1 = none ∧ q.1 ≠ D) → Kp ex s.heap h' → Ex D h' → done D { s with heap := h', toks := tk }) :
    wpAny (model prog w) A (pyIter (.ref r)) (fun it s₂ => CompNeed prog w A env scope cl x ifs elt p G ex Ex done it s₂) E s := by
  have hsmall : Builtin.Range.small 0 n 1 = true := by
    have hs : Builtin.Range.rangeSize 0 n 1 = n := by unfold Builtin.Range.rangeSize; simp; omega
    unfold Builtin.Range.small; rw [hs]; simp [Builtin.Range.rangeFitsLong]; omega
  have hsize : Builtin.Range.rangeSize 0 n 1 = n := by
    unfold Builtin.Range.rangeSize; simp; omega
  refine wpAny_pyIter_range hr hsmall ?_
  have st : ∀ (o : Obj) (h : Heap), (∀ b o', b ∉ [s.heap.objs.size] → (s.heap.push o).get? b = some o' → h.get? b = some o') → s.heap.StaysIn h := fun o h k b o' e =>
    k b o' (fun q => Nat.ne_of_lt (Heap.lt_size e) (List.mem_singleton.mp q)) (Heap.get?_push_of_some _ e)
  have le : ∀ {o : Obj} (C : Addr), (s.heap.push o).objs.size ≤ C → s.heap.objs.size ≤ C := fun C q => by rw [Heap.size_push] at q; exact Nat.le_of_succ_le q
  refine ⟨_, _, _, _, _, _, rfl, (Walks.range hh s.heap.objs.size 0 1 n).bound, by rw [sizeLine_eq]; omega, ?_, ?_, ?_, ?_, ?_, ?_, ?_⟩
  · show IsRangeIter _ _ _ _ _
    rw [hsize]; simpa using Heap.get?_push_size _ rfl
  · rintro i h e b hb
    exact ⟨_, List.mem_singleton.mp hb ▸ e⟩
  · intro b hb
    rw [Heap.size_push, List.mem_singleton.mp hb]; exact Nat.lt_succ_self _
  · intro b hb
    obtain ⟨o, e⟩ := hex b hb
    exact ⟨fun q => Nat.ne_of_lt (Heap.lt_size e) (List.mem_singleton.mp q), o, Heap.get?_push_of_some _ e⟩
  · rintro C i v h tk E' m' hi ⟨_, t', rfl⟩ hC hn hm k
    have ei : (0 : Int) + i * 1 = i := by omega
    rw [ei] at hm ⊢
    exact tests C i t' h tk E' m' hi ⟨hn, st _ h k, le _ hC⟩ hm
  · rintro C i v h tk E' m' hi ⟨_, t', rfl⟩ hp hC hn hm k
    have ei : (0 : Int) + i * 1 = i := by omega
    rw [ei] at hm hp ⊢
    exact helt C i t' h tk E' m' hi hp ⟨hn, st _ h k, le _ hC⟩ hm
  · intro h' tk D ys us os nD hD hD' hlen hP hG hos k hE
    refine hdone h' tk D ys us os nD (push_none hD) hD' ⟨hlen, fun j v hj => ?_⟩ hG (fun q hq => ⟨(hos q hq).1, push_none (hos q hq).2.1, (hos q hq).2.2⟩)
      (fun b o hb e => k b o (fun q => Nat.ne_of_lt (Heap.lt_size e) (List.mem_singleton.mp q)) hb (Heap.get?_push_of_some _ e)) hE
    obtain ⟨_, t', e⟩ := hP j v hj
    have ei : (0 : Int) + j * 1 = j := by omega
    exact ⟨t', by rw [e, ei]⟩
end
end
theorem off_M8 : True := by
  w_top off
  k_with_none
  trivial
-- M8
section
open PySem PySem.W PyProof.Rows PySem.Calls
theorem kw_M8_1 : True := by
  k_with_none
  k_with "mytree" => ((first | (with_reducible show wpAny _ _ _ _ _ _) | (with_reducible show ite _ _ _)); (fail_if_success (with_reducible show wpAny _ _ (eval (PySem.Expr.ListComp _ _ _ _) _) _ _ _)); (fail_if_success (with_reducible show wpAny _ _ (exec (PySem.Stmt.For _ _ _ _ _) _) _ _ _)); (fail_if_success (with_reducible show wpAny _ _ (exec (PySem.Stmt.While _ _ _ _) _) _ _ _)); (fail_if_success (with_reducible show wpAny _ _ (exec (PySem.Stmt.Try _ _ _ _ _) _) _ _ _)); (fail_if_success (with_reducible show wpAny _ _ (exec (PySem.Stmt.Assign _ (PySem.Expr.ListComp _ _ _ _) _) _) _ _ _)))
  k_with "mygo" => (repeat' (first | (k_unfold; (try dsimp only)) | (walk_at "mytree"; walk1) | (dsimp only; walk_at "mytree"; walk1) | fail "no step"))
  trivial
section
variable {w : World} {A : Around} {s : Shared} {hb : Heap} {loose : List Str} {mean : ExcName → Option Value} {mg mb : Str → Option Value} {prog : Program} {K : Frag} {p : Program}
  {R : Result → Shared → Prop} {name qual : Str} {params : Arguments} {body : List Stmt} {scope : Scope} {dV kV doc pm cdv ct oc : Value} {an od : Option Addr} {osl : Array (Option Value)} {f : Addr} {args : Args} {binds : List (Str × Value)}
/-- enter, where the def has cells -/
theorem enterC (X : K.In hb) (T : Top p loose mean mg mb hb) (S : hb.StaysIn s.heap) (D : List (Addr × Obj)) (hD : ∀ q ∈ D, s.heap.get? q.1 = some q.2 ∧ hb.get? q.1 = none)
    (ho : K.lookup f = some ⟨oc, od, .func (fnOf name qual params body scope dV kV doc pm an cdv ct), osl⟩) (hcd : codeIn K cdv qual = true) (hroom : A.depth < recursionLimit)
    (hbind : BindsTo s (fnOf name qual params body scope dV kV doc pm an cdv ct) args binds) (hkind : (binds.all fun y => scope.names.lookup y.1 == some .local || scope.names.lookup y.1 == some .cell) = true)
    (hnd : ((cellsFrom 0 scope.names []).map (·.1)).Nodup)
    (h : ∀ g L h₁ tk cells, Fr g L h₁ (bindL (envOfC qual scope L f cdv).kindOf binds fun _ => none) → News g L h₁ (cells ++ D) →
      CellsAre (bindC (envOfC qual scope L f cdv).kindOf binds fun _ => none) (cellsFrom (L + 1) scope.names []) cells → K.In g → Top p loose mean mg mb g → hb.StaysIn g →
      (∀ a o, a ∉ D.map (·.1) → s.heap.get? a = some o → g.get? a = some o) → s.heap.objs.size = L → (∀ q ∈ D, q.1 < L) →
      wpAny (model prog w) (A.deeper (envOfC qual scope L f cdv)) (execs body (envOfC qual scope L f cdv))
        (fun fl s' => R (.ok (.ret (match fl with | .ret v => v | _ => .none))) s')
        (fun e s' => wpAny (model prog w) (A.deeper (envOfC qual scope L f cdv)) (leaving (envOfC qual scope L f cdv) e) (fun _ s'' => R (.error e) s'') (fun e' s'' => R (.error e') s'') s')
        { s with heap := h₁, toks := tk })
    (hco : scope.isCoroutine = false := by rfl) (hgen : scope.isGenerator = false := by rfl) (hk : scope.kind = .function := by rfl) : codeAny (model prog w) A (.call (.ref f) args) R s := by
  refine codeAny_call_function (fd := fnX name qual params body scope [] dV kV doc pm an cdv ct) hroom (S _ _ (X _ _ ho)) rfl hco hgen rfl (codeRec_of (Frag.In.keeps X S) hcd) (hbind _ _ _ _ ?_)
  refine wpAny_newFunctionEnv_cells hk (kindsX hkind _) fun env' he s' x => ?_
  subst he
  refine ⟨(T.nolimit.keeps S).keeps x.toInCall.keep, codeAny_func ?_⟩
  obtain ⟨h₁, tk, rfl, _⟩ := x.done
  have hk₁ := x.toInCall.keep
  obtain ⟨cells, NC, Y⟩ := Cl.news (h₀ := s.heap) (Nat.le_refl _) fun n c hm => ⟨x.cell n c (lookup_of_mem_nodup (cellsFrom_names scope.names 0 (s.heap.objs.size + 1) [] [] rfl ▸ hnd) hm), x.above n c hm⟩
  have nm : ∀ b o, hb.get? b = some o → b ∉ D.map (·.1) := fun b o e q => by
    obtain ⟨q', hq, rfl⟩ := List.mem_map.mp q
    rw [(hD _ hq).2] at e; cases e
  have st : hb.StaysIn (hideAll s.heap (D.map (·.1))) := fun b o e => hideAll_get _ (S b o e) (nm b o e)
  refine h (hideAll s.heap (D.map (·.1))) s.heap.objs.size h₁ tk cells ⟨x.toInCall.ns, fun b o e => hk₁ b o (of_hideAll _ e), Nat.le_of_eq (hideAll_size _ _)⟩ (fun q hq => ?_) Y
    (Frag.In.keeps (h' := hideAll s.heap (D.map (·.1))) X fun b o e => st b o e) (Top.keeps (h' := hideAll s.heap (D.map (·.1))) T fun b o e => st b o e) st (fun a o n e => hideAll_get _ e n) rfl (fun q hq => Heap.lt_size (hD q hq).1)
  rcases List.mem_append.mp hq with hq | hq
  · refine ⟨(NC q hq).1, (NC q hq).2.1, ?_⟩
    cases z : (hideAll s.heap (D.map (·.1))).get? q.1 with
    | none => rfl
    | some o => have := of_hideAll _ z; rw [(NC q hq).2.2] at this; cases this
  · exact ⟨hk₁ _ _ (hD q hq).1, Nat.ne_of_lt (Heap.lt_size (hD q hq).1), hideAll_none _ (List.mem_map_of_mem hq)⟩
end
noncomputable def places (bs : List Bool) : List Nat := (List.range bs.length).filter fun r => bs.getD r false
/-- a list's items are these ints, their tokens unknown -/
noncomputable def NatsAre (vs : List Value) (ns : List Nat) : Prop := IntsAre vs (ns.map fun n : Nat => (n : Int))
section
variable {prog : Program} {w : World} {A : Around} {E : Value → Shared → Prop} {s : Shared} {h₀ : Heap} {L l : Addr} {m : Str → Option Value} {xs : Array Value} {n : Nat} {Q : Value → Shared → Prop}
theorem list_base (F : Fr h₀ L s.heap m) (hl : h₀.get? l = some (listOf xs n)) : s.heap.IsList l xs := ⟨_, F.keep _ _ hl, rfl, n, rfl⟩
theorem len_base (F : Fr h₀ L s.heap m) (hl : h₀.get? l = some (listOf xs n)) (hs : xs.size ≤ 10000) (h : ∀ t tk, Q (.int xs.size t) { s with toks := tk }) : wpAny (model prog w) A (PySem.call (.builtin "len") [.ref l]) Q E s :=
  Calls.call_len_list (list_base F hl) (by omega) (h _ _)
end
section
variable {prog : Program} {w : World} {M : Model} {A : Around} {E : Value → Shared → Prop} {s : Shared} {h₀ : Heap} {L l c : Addr} {m mg mb : Str → Option Value} {xs : Array Value} {n : Nat} {Q : Value → Shared → Prop} {env : Env} {x : Str} {pos : Pos} {v : Value} {o : Obj} {K : Frag} {p : Program} {loose : List Str}
/-- names, in whatever block -/
theorem nm_local (F : Fr h₀ L s.heap m) (hL : env.locals = L) (hv : m x = some v) (h : Q v s) (hk : env.scope.kind = .function := by rfl) (hx : env.kindOf x = some .local := by rfl) (hd : (x == ("__debug__" : Str)) = false := by decide) :
    wpAny M A (eval (.Name x pos) env) Q E s := by subst hL; exact wpAny_Name (wpAny_loadName_local hk hx F.ns hv h) hd
theorem nm_cell (F : Fr h₀ L s.heap m) (hc : env.cells.lookup x = some c) (ho : h₀.get? c = some o) (hd : o.data = .cell (some v)) (h : Q v s) (hk : env.scope.kind = .function := by rfl) (hx : env.kindOf x = some .cell := by rfl) (hb : (x == ("__debug__" : Str)) = false := by decide) :
    wpAny M A (eval (.Name x pos) env) Q E s := wpAny_Name (wpAny_loadName_cell hk hx hc ⟨o, F.keep _ _ ho, hd⟩ h) hb
theorem nm_cellN {news : List (Addr × Obj)} (N : News h₀ L s.heap news) (hc : env.cells.lookup x = some c) (ho : (c, o) ∈ news) (hd : o.data = .cell (some v)) (h : Q v s) (hk : env.scope.kind = .function := by rfl) (hx : env.kindOf x = some .cell := by rfl) (hb : (x == ("__debug__" : Str)) = false := by decide) :
    wpAny M A (eval (.Name x pos) env) Q E s := wpAny_Name (wpAny_loadName_cell hk hx hc ⟨o, N.get ho, hd⟩ h) hb
theorem nm_global (F : Fr h₀ L s.heap m) (X : K.In h₀) (T : TopRead p loose mg mb h₀) (e : nsIn K mainGlobals x = some (some v)) (h : Q v s) (hg : env.globals = mainGlobals := by rfl)
    (hk : env.scope.kind = .function := by rfl) (hx : env.kindOf x = some .globalImplicit := by rfl) (hd : (x == ("__debug__" : Str)) = false := by decide) :
    wpAny M A (eval (.Name x pos) env) Q E s := Name_function_global hk hx (loadGlobal_global (by rw [hg]; exact T.g.keeps F.keep) (mg_of X T.g e) h) hd
theorem item_base {i : Int} {u : Tok} {vs : List Value} {value slice : Expr} (F : Fr h₀ L s.heap m) (hl : h₀.get? l = some (listOf vs.toArray n)) (h0 : 0 ≤ i) (h63 : i < 2 ^ 63) (hx : vs[i.toNat]? = some v) (h : Q v s)
    (hsub : subscripted slice false (.ref l) (.int i u) = operate [.ref l, .int i u] (getItem (.ref l) (.int i u)) := by with_unfolding_all rfl) :
    wpAny (model prog w) A (subscriptTail value slice (.ref l) (.int i u)) Q E s :=
  tail_any (list_base F hl).typeIs slot_list_getitem.lookup (wpAny_getItem_list (list_base F hl) h0 h63 (by simpa using hx) h) hsub
end
theorem gl_ints {G : Value → Value → List (Addr × Obj) → Prop} (hG : ∀ v y os, G v y os → y = v ∧ os = []) {vs ys : List Value} {os : List (Addr × Obj)} (x : GL G vs ys os) : ys = vs ∧ os = [] := by
  induction x with
  | nil => exact ⟨rfl, rfl⟩
  | snoc _ h ih =>
    obtain ⟨rfl, rfl⟩ := ih
    obtain ⟨rfl, rfl⟩ := hG _ _ _ h
    exact ⟨rfl, rfl⟩
theorem intsAre_of {vs : List Value} {ns : List Int} (hl : vs.length = ns.length) (h : ∀ (j : Nat) v, vs[j]? = some v → ∃ t, v = .int (ns.getD j 0) t) : IntsAre vs ns := by
  induction vs generalizing ns with
  | nil => cases ns with
    | nil => exact .nil
    | cons _ _ => simp at hl
  | cons v vs ih => cases ns with
    | nil => simp at hl
    | cons n ns =>
      obtain ⟨t, e⟩ := h 0 v rfl
      have e' : v = .int n t := by simpa using e
      subst e'
      exact .cons _ _ (ih (by simpa using hl) fun j u hj => by simpa using h (j + 1) u (by simpa using hj))
theorem intsAre_filter {p : Value → Bool} {q : Int → Bool} (hpq : ∀ n t, p (.int n t) = q n) : ∀ {vs : List Value} {ns : List Int}, IntsAre vs ns → IntsAre (vs.filter p) (ns.filter q)
  | _, _, .nil => .nil
  | _, _, .cons n t r => by
    have ih := intsAre_filter hpq r
    rw [List.filter_cons, List.filter_cons, hpq]
    cases q n with
    | true => simpa using .cons _ _ ih
    | false => simpa using ih
theorem rangeVals_ints {n : Nat} {vs : List Value} (h : RangeVals n vs) : NatsAre vs (List.range n) :=
  intsAre_of (by simp [h.1]) fun j v hj => by
    obtain ⟨t, e⟩ := h.2 j v hj
    have hj' : j < n := by have := (List.getElem?_eq_some_iff.mp hj).1; rw [h.1] at this; exact this
    exact ⟨t, by rw [e]; simp [hj']⟩
section
variable {w : World} {A : Around} {s : Shared} {hb : Heap} {loose : List Str} {mean : ExcName → Option Value} {mg mb : Str → Option Value} {R : Result → Shared → Prop}
theorem kw_M8_2 : True := by
  k_with "call builtin:len" => (k_here; (with_reducible show wpAny _ _ (PySem.call (Value.builtin "len") [Value.ref _]) _ _ _); k_dflt (refine' len_base ?z_F ?z_m ?z_sz ?_; (case z_F => k_asm); (case z_m => assumption); (case z_sz => simp only [List.size_toArray, List.length_map]; omega)); intro _ _)
  k_with "eval Name" => (k_here; k_dflt (first | (refine' nm_local ?z_F ?z_L ?z_v ?_ ?z_a ?z_b; (case z_a => rfl); (case z_b => rfl); (case z_F => k_asm); (case z_L => rfl); (case z_v => first | assumption | rfl); k_whole) | (refine' nm_cell ?z_F ?z_c ?z_o ?z_d ?_ ?z_a ?z_b; (case z_a => rfl); (case z_b => rfl); (case z_F => k_asm); (case z_c => rfl); (case z_o => assumption); (case z_d => assumption); k_whole)))
  k_with "subscriptTail Name Name ref int" => (k_here; k_dflt (refine' item_base ?z_F ?z_l ?z_a ?z_b ?z_c ?_ ?z_e; (case z_F => k_asm); (case z_l => assumption); (case z_a => omega); (case z_b => omega); (case z_c => assumption); (case z_e => with_unfolding_all rfl)))
  trivial
theorem places_spec (X : (hd.heap_1 w.params).In hb) (T : Top topProg loose mean mg mb hb) (S : hb.StaysIn s.heap) (hroom : A.depth < 900) (hh : A.handled = none) {l : Addr} {vs : List Value} {c : Nat} {bs : List Bool}
    (hl : s.heap.get? l = some (listOf vs.toArray c)) (hbs : vs = bs.map Value.bool) (hsz : bs.length ≤ 1000)
    (k : ∀ h' tk a us n, Kp [] s.heap h' → s.heap.get? a = none → h'.get? a = some (listOf us.toArray n) → NatsAre us (places bs) → R (.ok (.ret (.ref a))) { s with heap := h', toks := tk }) :
    codeAny (model Challenge.rw_mq0106_01.row.prog w) A (.call (.ref 246) ⟨[.ref l], []⟩) R s := by
  revert X; k_fill; intro X
  refine' enterC (binds := [(PySem.Str.ofString "truths", Value.ref l)]) X T S [] (by simp) ?k6 ?k7 ?k8 ?k9 ?kB ?kD ?_ ?c3 ?c4 ?c5
  case k6 => k_is
  case k7 => k_is
  case k8 => k_room
  case k9 => exact BindsTo.of_eq rfl
  case kB => exact rfl
  case kD => decide +kernel
  case c3 => exact rfl
  case c4 => exact rfl
  case c5 => exact rfl
  intro g' L' h' tk' cells' F' N' Y' X' T' S' hg' hL' hl'
  k_cells Y'
  (try simp only [List.cons_append, List.nil_append] at N')
  (try dsimp only)
  show wpAny _ _ _ _ _ _
  k_fold
  clear X T S
  subst hbs
  have hlg := hg' l _ (by simp) hl
  iterate 2 walk1
  refine' comp_eval (fun v => match v with | .int r _ => bs.getD r.toNat false | _ => false) (fun v y os => y = v ∧ os = []) ?e1 ?e2 ?e3 ?e4 ?e5 ?e6
  case e1 => exact rfl
  case e2 => decide
  case e3 => exact rfl
  case e4 => decide
  case e5 => exact rfl
  iterate 13 walk1
  rename_i F1 N1 kp1
  rename IsRange _ _ _ _ _ _ _ _ => hr
  have hcell := News.get N1 (.head _)
  have hl1 := F1.keep _ _ hlg
  simp only [List.size_toArray, List.length_map] at hr
  refine' need_range (n := bs.length) ?hh ?hr ?hz ?hx ?t ?e ?d
  case hh => exact hh
  case hr => exact hr
  case hz => omega
  case hx => exact fun b hb => nomatch hb
  case t =>
    intro C i t' h tk E' m' hi F hm
    dsimp only at F
    have hitem : (bs.map Value.bool)[(i : Int).toNat]? = some (.bool (bs.getD (i : Int).toNat false)) := by simp [hi]
    refine wpAny_tests_one ?_
    walk_at "mygo"
    exact ⟨rfl, _, _, rfl, fun _ _ e => e⟩
  case e =>
    intro C i t' h tk E' m' hi hp F hm
    dsimp only at F
    walk_at "mygo"
    exact ⟨⟨_, _, rfl, fun _ _ e => e⟩, [], ⟨rfl, rfl⟩, fun q hq => nomatch hq⟩
  case d =>
    intro h2 tk2 D ys us os nD hD hD' hv hG hos kp hE
    obtain ⟨rfl, rfl⟩ := gl_ints (fun _ _ _ x => x) hG
    have kk : Kp [] s.heap h2 := fun a o n e => kp a o n (F1.keep _ _ (hg' a o n e))
    refine k h2 _ D _ nD kk ?_ hD' ?_
    · cases z : s.heap.get? D with
      | none => rfl
      | some o => have := F1.keep _ _ (hg' D o (by simp) z); rw [hD] at this; cases this
    · have := intsAre_filter (p := fun v => match v with | .int r _ => bs.getD r.toNat false | _ => false) (q := fun n => bs.getD n.toNat false) (fun n t => rfl) (rangeVals_ints hv)
      unfold NatsAre places
      rw [List.filter_map] at this
      simpa [Function.comp_def] using this
end
end
theorem off_E0 : True := by
  w_top off
  k_with_none
  trivial
-- E0
section
open PySem PySem.W PyProof.Rows PySem.Calls
noncomputable abbrev rowObj (x y : Str) (tx ty : Tok) : Obj := { cls := .type "tuple", data := .seq #[.str x tx, .str y ty] }
inductive RowsAt (h : Heap) : List Value → List (Str × Str) → Prop
  | nil : RowsAt h [] []
  | cons (a x y tx ty) {vs rs} : h.get? a = some (rowObj x y tx ty) → RowsAt h vs rs → RowsAt h (.ref a :: vs) ((x, y) :: rs)
theorem RowsAt.keeps {h h' : Heap} {vs : List Value} {rs : List (Str × Str)} (x : RowsAt h vs rs) (k : ∀ a o, h.get? a = some o → o.cls = .type "tuple" → h'.get? a = some o) : RowsAt h' vs rs := by
  induction x with
  | nil => exact .nil
  | cons a x y tx ty e r ih => exact .cons a x y tx ty (k _ _ e rfl) ih
theorem RowsAt.len {h : Heap} {vs : List Value} {rs : List (Str × Str)} (x : RowsAt h vs rs) : vs.length = rs.length := by
  induction x with
  | nil => rfl
  | cons _ _ _ _ _ _ _ ih => simp [ih]
theorem RowsAt.get {h : Heap} {vs : List Value} {rs : List (Str × Str)} (x : RowsAt h vs rs) {i : Nat} (hi : i < rs.length) : ∃ a tx ty, vs[i]? = some (.ref a) ∧ h.get? a = some (rowObj (rs.getD i ("", "")).1 (rs.getD i ("", "")).2 tx ty) := by
  induction x generalizing i with
  | nil => simp at hi
  | cons a x y tx ty e r ih =>
    cases i with
    | zero => exact ⟨a, tx, ty, rfl, by simpa using e⟩
    | succ i =>
      obtain ⟨a', tx', ty', e1, e2⟩ := ih (i := i) (by simpa using hi)
      exact ⟨a', tx', ty', by simpa using e1, by simpa using e2⟩
noncomputable def sideOf (sd : Int) (r : Str × Str) : Str := if sd = 0 then r.1 else r.2
noncomputable def addWord (ws : List Str) (x : Str) : List Str := if ws.any (· == x) then ws else ws ++ [x]
noncomputable def wordsOf (xs : List Str) : List Str := xs.foldl addWord []
theorem wordsOf_snoc {xs : List Str} {x : Str} : wordsOf (xs ++ [x]) = addWord (wordsOf xs) x := by simp [wordsOf]
theorem addWord_len {ws : List Str} {x : Str} : (addWord ws x).length ≤ ws.length + 1 := by
  unfold addWord; split <;> simp
theorem foldWord_len : ∀ {xs ws : List Str}, (xs.foldl addWord ws).length ≤ ws.length + xs.length
  | [], ws => by simp
  | x :: r, ws => by
    have := foldWord_len (xs := r) (ws := addWord ws x)
    have := addWord_len (ws := ws) (x := x)
    simp only [List.foldl_cons, List.length_cons]; omega
theorem wordsOf_len {xs : List Str} : (wordsOf xs).length ≤ xs.length := by simpa [wordsOf] using foldWord_len (xs := xs) (ws := [])
theorem strs_snoc {x : Str} {t : Tok} : ∀ {vs : List Value} {ys : List Str}, StrsAre vs ys → StrsAre (vs ++ [.str x t]) (ys ++ [x])
  | _, _, .nil => .cons _ _ .nil
  | _, _, .cons y t r => .cons y t (strs_snoc r)
theorem take_map_snoc {α β : Type} {rws : List α} {d r : α} {f : α → β} {j : Nat} (h : j < rws.length) (e : rws.getD j d = r) : (rws.take (j + 1)).map f = (rws.take j).map f ++ [f r] := by
  have e' : rws[j] = r := by rw [← e, List.getD_eq_getElem?_getD, List.getElem?_eq_getElem h]; rfl
  rw [List.take_succ_eq_append_getElem h, List.map_append, e']; rfl
section
variable {prog : Program} {w : World} {A : Around} {E : Value → Shared → Prop} {s : Shared} {a : Addr} {x y : Str} {tx ty u : Tok} {i : Int} {value slice : Expr} {Q : Value → Shared → Prop}
theorem tup_item (ht : s.heap.get? a = some (rowObj x y tx ty)) (hi : i = 0 ∨ i = 1) (h : ∀ t, Q (.str (sideOf i (x, y)) t) s)
    (hsub : subscripted slice false (.ref a) (.int i u) = operate [.ref a, .int i u] (getItem (.ref a) (.int i u)) := by with_unfolding_all rfl) :
    wpAny (model prog w) A (subscriptTail value slice (.ref a) (.int i u)) Q E s := by
  have hT : IsTup s.heap a #[.str x tx, .str y ty] := ⟨_, ht, rfl, _, rfl⟩
  refine tail_any hT.typeIs slot_tuple_getitem.lookup ?_ hsub
  rcases hi with rfl | rfl
  · exact getItem_tuple (j := 0) hT (by decide) (by decide) rfl rfl (h tx)
  · exact getItem_tuple (j := 1) hT (by decide) (by decide) rfl rfl (h ty)
end
end
theorem off_M6C : True := by
  w_top off
  k_with_none
  trivial
-- M6C
section
open PySem PySem.W PyProof.Rows PySem.Calls
section
variable {prog : Program} {w : World} {A : Around} {E : Value → Shared → Prop} {R : Result → Shared → Prop} {s : Shared} {env : Env}
/-- what a comprehension over an iterator wants: its walk, its tests, its element, its end -/
inductive CompNeedC (prog : Program) (w : World) (A : Around) (env : Env) (scope : Scope) (cl : List (Str × Addr)) (x : Str) (ifs : List Expr) (elt : Expr) (p : Value → Bool) (G : Value → Value → List (Addr × Obj) → Prop)
    (ex : List Addr) (Ex : Addr → Heap → Prop) (done : Addr → Shared → Prop) (it : Value) (s₂ : Shared) : Prop
  | mk (I : Addr) (fp wr : List Addr) (n : Nat) (P : Nat → Value → Prop) (St : Nat → Heap → Prop) (_ : it = .ref I) (_ : Walks prog w A I fp wr n P St) (_ : n ≤ sizeLine) (_ : St 0 s₂.heap) (_ : ∀ i h, St i h → ∀ b ∈ wr, ∃ o, h.get? b = some o) (_ : ∀ b ∈ fp, b < s₂.heap.objs.size) (_ : ∀ b ∈ ex, b ∉ wr ∧ ∃ o, s₂.heap.get? b = some o) (_ : ∀ C i v h tk E', i < n → P i v → s₂.heap.objs.size ≤ C → h.Ns C (fun _ => none) → (∃ o, h.get? (C + 1) = some o ∧ o.data = .cell (some v)) → (∀ b o, b ∉ wr → s₂.heap.get? b = some o → h.get? b = some o) →
      wpAny (model prog w) A (testsOf ifs (compEnvC scope ((x, C + 1) :: cl) C env)) (fun ok s₃ => ok = p v ∧ Keeps { s₂ with heap := h, toks := tk } s₃) E' { s₂ with heap := h, toks := tk }) (_ : ∀ C i v h tk E', i < n → P i v → p v = true → s₂.heap.objs.size ≤ C → h.Ns C (fun _ => none) → (∃ o, h.get? (C + 1) = some o ∧ o.data = .cell (some v)) → (∀ b o, b ∉ wr → s₂.heap.get? b = some o → h.get? b = some o) →
      wpAny (model prog w) A (eval elt (compEnvC scope ((x, C + 1) :: cl) C env)) (fun y s₃ => Keeps { s₂ with heap := h, toks := tk } s₃ ∧ ∃ os, G v y os ∧ ∀ q ∈ os, h.get? q.1 = none ∧ s₃.heap.get? q.1 = some q.2) E' { s₂ with heap := h, toks := tk }) (_ : ∀ h' tk D ys (vs : List Value) os nD, s₂.heap.get? D = none → h'.get? D = some (listOf ys.toArray nD) → vs.length = n → (∀ j v, vs[j]? = some v → P j v) → GL G (vs.filter p) ys os →
      (∀ q ∈ os, h'.get? q.1 = some q.2 ∧ s₂.heap.get? q.1 = none ∧ q.1 ≠ D) → (∀ b o, b ∉ wr → b ∉ ex → s₂.heap.get? b = some o → h'.get? b = some o) → Ex D h' → done D { s₂ with heap := h', toks := tk })
theorem comp_blockC {elt iter : Expr} {x : Str} {px : Pos} {ifs : List Expr} {scope : Scope} {cl : List (Str × Addr)} {pos : Pos} {s₂ : Shared} {p : Value → Bool} {G : Value → Value → List (Addr × Obj) → Prop} {ex : List Addr} {Ex : Addr → Heap → Prop} {done : Addr → Shared → Prop} {it : Value}
    {RR : Value → Addr → Result → Shared → Prop}
    (hcf : ∀ n, cellsFrom n scope.names cl = (x, n) :: cl) (hpc : ∀ h, pushCells h scope.names = h.push { cls := .type "cell", data := .cell none }) (hkind : scope.kind = .function) (hx : ∀ C, (compEnvC scope ((x, C + 1) :: cl) C env).kindOf x = some .cell) (N : CompNeedC prog w A env scope cl x ifs elt p G ex Ex done it s₂)
    (hRR : ∀ D C h' tk m' nD ys, s₂.heap.get? D = none → s₂.heap.get? C = none → D ≠ C → h'.Ns C m' → h'.get? D = some (listOf ys nD) → (∀ h'' tk'', (∀ b o, b ≠ C → b ∉ ex → h'.get? b = some o → h''.get? b = some o) → Ex D h'' → done D { s₂ with heap := h'', toks := tk'' }) → (∀ b ∈ ex, ∀ o, s₂.heap.get? b = some o → h'.get? b = some o) →
      RR (.ref D) C (.ok .next) { s₂ with heap := h', toks := tk }) :
    wpAny (model prog w) A (newList []) (fun acc s₃ => wpAny (model prog w) A (newFunctionEnv scope env.globals cl [] env.qual none .none (some env)) (fun cenv s₄ =>
      codeAny (model prog w) A (.compStart (.ListComp elt [⟨.Name x px, iter, ifs, 0⟩] scope pos) 0 it acc { cenv with scope := relabel scope env }) (RR acc cenv.locals) s₄) E s₃) E s₂ := by
  obtain ⟨I, fp, wr, n, P, St, rfl, W, hsz, hst, hlw, hfp, hex, htests, helt, hdone⟩ := N
  refine wpAny_newObj_type ?_
  simp only [newFunctionEnv, Option.isSome_some, if_true]
  refine wpAny_bind (wpAny_alloc ?_)
  refine wpAny_bind (wpAny_layCells _ (fun name kind cells => by cases hkc : kind == NameKind.cell <;> simp [hkc]) _ _ _ _ ?_)
  simp only [List.forIn_nil]
  refine wpAny_bind (wpAny_pure (wpAny_pure ?_))
  rw [hcf, hpc]
  dsimp only
  generalize hH2 : s₂.heap.push { cls := .type "list", dict := none, data := .seq ([] : List Value).toArray } = H2
  have hC : H2.objs.size = s₂.heap.objs.size + 1 := by rw [← hH2, Heap.size_push]
  have hK : (H2.push { cls := .type "dict", data := .dict #[] }).objs.size = H2.objs.size + 1 := Heap.size_push ..
  rw [hK]
  generalize hh1 : (H2.push { cls := .type "dict", data := .dict #[] }).push { cls := .type "cell", data := .cell none } = h₁
  have eC : h₁.Ns H2.objs.size fun _ => none := by
    rw [← hh1]; exact (Heap.Ns.new H2 (.type "dict")).push _
  have eK : h₁.get? (H2.objs.size + 1) = some { cls := .type "cell", data := .cell none } := by
    rw [← hh1, ← hK]; exact Heap.get?_push_size _ rfl
  have hDC : s₂.heap.objs.size ≠ H2.objs.size := by rw [hC]; exact Nat.ne_of_lt (Nat.lt_succ_self _)
  have hDK : s₂.heap.objs.size ≠ H2.objs.size + 1 := by rw [hC]; omega
  have below : ∀ b, b < s₂.heap.objs.size → b ≠ H2.objs.size + 1 ∧ b ≠ s₂.heap.objs.size := fun b hb => ⟨by rw [hC]; exact Nat.ne_of_lt (by omega), Nat.ne_of_lt hb⟩
  have hDf : s₂.heap.objs.size ∉ fp := fun hm => Nat.lt_irrefl _ (hfp _ hm)
  have hCf : H2.objs.size + 1 ∉ fp := fun hm => by have := hfp _ hm; rw [hC] at this; exact absurd (show @LT.lt Nat _ _ _ from this) (by omega)
  have hCf' : H2.objs.size ∉ fp := fun hm => by have := hfp _ hm; rw [hC] at this; exact absurd (show @LT.lt Nat _ _ _ from this) (by omega)
  have old : ∀ b o, s₂.heap.get? b = some o → h₁.get? b = some o := fun b o e => by
    rw [← hh1]; exact Heap.get?_push_of_some _ (Heap.get?_push_of_some _ (hH2 ▸ Heap.get?_push_of_some _ e))
  have hacc : h₁.PlainList s₂.heap.objs.size #[] := ⟨_, by
    rw [← hh1]; exact Heap.get?_push_of_some _ (Heap.get?_push_of_some _ (hH2 ▸ Heap.get?_push_size _ rfl))⟩
  have hst₁ : St 0 h₁ := W.frame _ _ _ hst fun b _ o e => old b o e
  have fresh : ∀ a, s₂.heap.objs.size ≤ a → s₂.heap.get? a = none := fun a ha => by
    cases e : s₂.heap.get? a with
    | none => rfl
    | some o' => exact absurd (Heap.lt_size e) (Nat.not_lt.mpr ha)
  have hD0 := fresh _ (Nat.le_refl s₂.heap.objs.size)
  have hCle : s₂.heap.objs.size ≤ H2.objs.size := by rw [hC]; exact Nat.le_succ _
  have hC0 := fresh H2.objs.size (by rw [hC]; exact Nat.le_succ _)
  have hK0 := fresh (H2.objs.size + 1) (by rw [hC]; omega)
  have keep : ∀ h : Heap, (∀ b o, b ∉ [H2.objs.size + 1] → b ∉ wr → b ≠ s₂.heap.objs.size → h₁.get? b = some o → h.get? b = some o) → ∀ b o, b ∉ wr → s₂.heap.get? b = some o → h.get? b = some o := fun h k b o hbf e =>
    k b o (fun q => (below b (Heap.lt_size e)).1 (List.mem_singleton.mp q)) hbf (below b (Heap.lt_size e)).2 (old b o e)
  have loop : ∀ s₃ : Shared, s₃ = { s₂ with heap := h₁ } →
      codeAny (model prog w) A (.compLoop (.ListComp elt [⟨.Name x px, iter, ifs, 0⟩] scope pos) 0 (.ref I) (.ref s₂.heap.objs.size) (compEnvC scope ((x, H2.objs.size + 1) :: cl) H2.objs.size env))
        (RR (.ref s₂.heap.objs.size) H2.objs.size) s₃ := by
    rintro s₃ rfl
    refine comp_loop (cenv := compEnvC scope ((x, H2.objs.size + 1) :: cl) H2.objs.size env) W p G [H2.objs.size + 1] (fun u h => ∃ o vo, h.get? (H2.objs.size + 1) = some o ∧ o.data = .cell vo ∧ ∀ v, u = some v → vo = some v) ?_ ?_ hlw ?_ (by simpa using hDK) hDf (by simpa using hCf) hst₁ hacc ⟨_, _, eK, rfl, by simp⟩ ?_ ?_ ?_ hsz (fun _ => rfl)
    · rintro u h h' ⟨o, vo, e, hd, hm⟩ k
      exact ⟨o, vo, k _ (by simp) o e, hd, hm⟩
    · rintro u h ⟨o, _, e, _⟩ c hc
      exact ⟨o, List.mem_singleton.mp hc ▸ e⟩
    · rintro u v s Q E ⟨o, vo, e, hd, hm⟩ k
      refine wpAny_assign_Name (wpAny_storeName_cell (env := compEnvC scope ((x, H2.objs.size + 1) :: cl) H2.objs.size env) (c := H2.objs.size + 1) (v₀ := vo) hkind (hx _) (by simp [compEnvC]) ⟨o, e, hd⟩ (fun h₂ hn₂ hs₂ => ?_))
      obtain ⟨o₂, e₂, d₂⟩ := hn₂
      exact k h₂ _ ⟨o₂, _, e₂, d₂, fun v' e => by cases e; rfl⟩ fun b o hb e => hs₂.extBut b o (fun q => hb (List.mem_singleton.mpr q)) e
    · rintro i v h tk E' hi hP ⟨o, vo, e, hd, hm⟩ k
      exact htests _ i v h tk E' hi hP hCle (eC.at' fun o e => k _ o (by simp) (fun q => hCf' (W.sub _ q)) (Ne.symm hDC) e) ⟨o, e, by rw [hd, hm v rfl]⟩ (keep h k)
    · rintro i v h tk E' hi hP hp ⟨o, vo, e, hd, hm⟩ k
      exact helt _ i v h tk E' hi hP hp hCle (eC.at' fun o e => k _ o (by simp) (fun q => hCf' (W.sub _ q)) (Ne.symm hDC) e) ⟨o, e, by rw [hd, hm v rfl]⟩ (keep h k)
    · rintro h' tk ys vs os _ ⟨nD, hD⟩ hlen hP hG hos k hoff
      have hn : h'.Ns H2.objs.size fun _ => none := by
        refine eC.at' fun o e => k _ o (by simp) (fun q => hCf' (W.sub _ q)) (Ne.symm hDC) e
      refine hRR _ _ h' tk _ nD ys.toArray hD0 hC0 hDC hn hD (fun h'' tk'' hs'' hE => ?_) fun b hb o e => keep h' k b o (hex b hb).1 e
      have nex : ∀ b, s₂.heap.get? b = none → b ∉ ex := fun b e q => by obtain ⟨o, e'⟩ := (hex b q).2; rw [e] at e'; cases e'
      have hne : ∀ q ∈ os, q.1 ≠ H2.objs.size := fun q hq z => by
        have h1 := (hos q hq).2
        obtain ⟨o, _, _, e, _⟩ := eC
        rw [z, e] at h1; cases h1
      refine hdone h'' tk'' _ ys vs os nD hD0 (hs'' _ _ hDC (nex _ hD0) hD) hlen hP hG (fun q hq => ?_) (fun b o hbf hbx e => hs'' b o (by rintro rfl; rw [hC0] at e; cases e) hbx (keep h' k b o hbf e)) hE
      obtain ⟨a, b, c⟩ := hoff q hq
      have z : s₂.heap.get? q.1 = none := by
        cases z : s₂.heap.get? q.1 with
        | none => rfl
        | some o => have := old _ _ z; rw [(hos q hq).2] at this; cases this
      exact ⟨hs'' _ _ (hne q hq) (nex _ z) (hos q hq).1, z, c⟩
  exact codeAny_compStart_list (loop _ rfl) (W.self 0 _ _ _ hst₁ (loop _ rfl))
theorem comp_evalC {s : Shared} {elt iter : Expr} {x : Str} {px : Pos} {ifs : List Expr} {scope : Scope} {cl : List (Str × Addr)} {pos : Pos} {Q : Value → Shared → Prop} (p : Value → Bool) (G : Value → Value → List (Addr × Obj) → Prop)
    (hclos : closureFor scope env = pure cl) (hcf : ∀ n, cellsFrom n scope.names cl = (x, n) :: cl) (hpc : ∀ h, pushCells h scope.names = h.push { cls := .type "cell", data := .cell none }) (hkind : scope.kind = .function)
    (hnames : ∀ y ∈ scope.names, y.2 = .local → scope.names.lookup y.1 = some .local) (hx : ∀ C, (compEnvC scope ((x, C + 1) :: cl) C env).kindOf x = some .cell)
    (h : wpAny (model prog w) A (eval iter env) (fun xv s₁ => wpAny (model prog w) A (pyIter xv) (fun it s₂ => CompNeedC prog w A env scope cl x ifs elt p G [] (fun _ _ => True) (fun D s' => Q (.ref D) s') it s₂) E s₁) E s)
    (hs : ∀ x, foldedSetIterable iter env x = pure x := by intro _; rfl) :
    wpAny (model prog w) A (eval (.ListComp elt [⟨.Name x px, iter, ifs, 0⟩] scope pos) env) Q E s := by
  rw [eval_ListComp]
  refine wpAny_comprehension_free (use := none) rfl hs hclos hkind hnames (wpAny_mono h (fun xv s₁ h₁ => wpAny_mono h₁ (fun it s₂ h₂ => ?_) fun _ _ e => e) fun _ _ e => e)
  exact comp_blockC (RR := fun acc C => compPost (model prog w) A E none Q acc C) hcf hpc hkind hx h₂ fun D C h' tk m' nD ys hD hC hDC hn hl hd hk => ⟨m', hn, fun h'' hs'' => hd h'' tk (fun b o hb _ e => hs''.extBut b o hb e) trivial⟩
end
end
theorem off_M7C : True := by
  w_top off
  k_with_none
  trivial
-- M7C
section
open PySem PySem.W PyProof.Rows PySem.Calls
theorem cellNews {g h : Heap} {C : Nat} {o : Obj} (l : g.objs.size ≤ C) (e : h.get? (C + 1) = some o) : News g C h [((C + 1 : Nat), o)] := fun p hp => by
  rw [List.mem_singleton.mp hp]
  exact ⟨e, Nat.succ_ne_self C, Heap.get?_none_of_le (Nat.le_succ_of_le l)⟩
section
variable {prog : Program} {w : World} {A : Around} {E : Value → Shared → Prop} {s : Shared} {env : Env} {scope : Scope} {cl : List (Str × Addr)} {x : Str} {ifs : List Expr} {elt : Expr} {p : Value → Bool} {G : Value → Value → List (Addr × Obj) → Prop}
  {ex : List Addr} {Ex : Addr → Heap → Prop} {done : Addr → Shared → Prop}
theorem need_listC (hh : A.handled = none) {l : Addr} {vs : List Value} (hl : s.heap.IsList l vs.toArray) (hsz : vs.length ≤ 100000) (hex : ∀ b ∈ ex, ∃ o, s.heap.get? b = some o)
    (tests : ∀ (C : Addr) (i : Nat) v h tk E' o, vs[i]? = some v → Fr s.heap C h (fun _ => none) → News s.heap C h [(C + 1, o)] → o.data = .cell (some v) →
      wpAny (model prog w) A (testsOf ifs (compEnvC scope ((x, C + 1) :: cl) C env)) (fun ok s₃ => ok = p v ∧ Keeps { s with heap := h, toks := tk } s₃) E' { s with heap := h, toks := tk })
    (helt : ∀ (C : Addr) (i : Nat) v h tk E' o, vs[i]? = some v → p v = true → Fr s.heap C h (fun _ => none) → News s.heap C h [(C + 1, o)] → o.data = .cell (some v) →
      wpAny (model prog w) A (eval elt (compEnvC scope ((x, C + 1) :: cl) C env)) (fun y s₃ => Keeps { s with heap := h, toks := tk } s₃ ∧ ∃ os, G v y os ∧ ∀ q ∈ os, h.get? q.1 = none ∧ s₃.heap.get? q.1 = some q.2) E' { s with heap := h, toks := tk })
    (hdone : ∀ h' tk D ys os nD, s.heap.get? D = none → h'.get? D = some (listOf ys.toArray nD) → GL G (vs.filter p) ys os → (∀ q ∈ os, h'.get? q.1 = some q.2 ∧ s.heap.get? q.1 = none ∧ q.1 ≠ D) → Kp ex s.heap h' → Ex D h' → done D { s with heap := h', toks := tk }) :
    wpAny (model prog w) A (pyIter (.ref l)) (fun it s₂ => CompNeedC prog w A env scope cl x ifs elt p G ex Ex done it s₂) E s := by
  have hlt : l < s.heap.objs.size := by obtain ⟨o, e, _⟩ := hl; exact Heap.lt_size e
  refine wpAny_pyIter_list hl ?_
  have st : ∀ (o : Obj) (h : Heap), (∀ b o', b ∉ [s.heap.objs.size] → (s.heap.push o).get? b = some o' → h.get? b = some o') → s.heap.StaysIn h := fun o h k b o' e =>
    k b o' (fun q => Nat.ne_of_lt (Heap.lt_size e) (List.mem_singleton.mp q)) (Heap.get?_push_of_some _ e)
  have le : ∀ {o : Obj} (C : Addr), (s.heap.push o).objs.size ≤ C → s.heap.objs.size ≤ C := fun C q => by rw [Heap.size_push] at q; exact Nat.le_of_succ_le q
  refine ⟨_, _, _, _, _, _, rfl, Walks.list hh s.heap.objs.size l (Nat.ne_of_lt hlt) vs.toArray, by rw [List.size_toArray, sizeLine_eq]; omega, ⟨⟨_, Heap.get?_push_size _ rfl, rfl, rfl⟩, hl.at fun o e => Heap.get?_push_of_some _ e⟩, ?_, ?_, ?_, ?_, ?_, ?_⟩
  · rintro i h ⟨⟨o, e, _⟩, _⟩ b hb
    exact ⟨o, List.mem_singleton.mp hb ▸ e⟩
  · intro b hb
    rw [Heap.size_push]
    rcases List.mem_cons.mp hb with rfl | hb
    · exact Nat.lt_succ_self _
    · rw [List.mem_singleton.mp hb]; exact Nat.lt_succ_of_lt hlt
  · intro b hb
    obtain ⟨o, e⟩ := hex b hb
    exact ⟨fun q => Nat.ne_of_lt (Heap.lt_size e) (List.mem_singleton.mp q), o, Heap.get?_push_of_some _ e⟩
  · rintro C i v h tk E' hi hP hC hn ⟨o, e, hd⟩ k
    exact tests C i v h tk E' o (by simpa using hP) ⟨hn, st _ h k, le _ hC⟩ (cellNews (le _ hC) e) hd
  · rintro C i v h tk E' hi hP hp hC hn ⟨o, e, hd⟩ k
    exact helt C i v h tk E' o (by simpa using hP) hp ⟨hn, st _ h k, le _ hC⟩ (cellNews (le _ hC) e) hd
  · intro h' tk D ys us os nD hD hD' hlen hP hG hos k hE
    have e : us = vs := list_eq_of (by simpa using hlen) fun j v hj => by simpa using hP j v hj
    subst e
    exact hdone h' tk D ys os nD (push_none hD) hD' hG (fun q hq => ⟨(hos q hq).1, push_none (hos q hq).2.1, (hos q hq).2.2⟩)
      (fun b o hb e => k b o (fun q => Nat.ne_of_lt (Heap.lt_size e) (List.mem_singleton.mp q)) hb (Heap.get?_push_of_some _ e)) hE
end
end
theorem off_D1 : True := by
  w_top off
  k_with_none
  trivial
-- D1
section
open PySem PySem.W PyProof.Rows PySem.Calls Builtin Builtin.ObjectAttr Builtin.Getset_descriptor
theorem fd_entry_new : entryFor table "dict.__new__" = some Builtin.«dict.__new__» := entryFor_of_tree (by kernel_rfl)
theorem fd_entry_init : entryFor table "collections.defaultdict.__init__" = some Builtin.«collections.defaultdict.__init__» := entryFor_of_tree (by kernel_rfl)
theorem fd_entry_dinit : entryFor table "dict.__init__" = some Builtin.«dict.__init__» := entryFor_of_tree (by kernel_rfl)
section
variable {w : World}
theorem fd_made {h : Heap} (X : (hd.heap_1 w.params).In h) : Looks (model Challenge.rw_mq0106_01.row.prog w) h (Bind.madeBy (.ref 108)) (some "dict.__new__") := by
  revert X; k_fill; intro X
  exact Looks.of_peek X (by kernel_rfl)
theorem fd_static {h : Heap} (X : (hd.heap_1 w.params).In h) : Looks (model Challenge.rw_mq0106_01.row.prog w) h (Bind.staticBase (.ref 108)) (.ref 108) := by
  revert X; k_fill; intro X
  exact Looks.of_peek X (by kernel_rfl)
theorem fd_sub {h : Heap} (X : (hd.heap_1 w.params).In h) : Looks (model Challenge.rw_mq0106_01.row.prog w) h (isSubtype (.ref 108) (.type "dict")) true := by
  revert X; k_fill; intro X
  exact looks_mroIn X (by kernel_rfl)
theorem fd_self {h : Heap} (X : (hd.heap_1 w.params).In h) : Looks (model Challenge.rw_mq0106_01.row.prog w) h (isSubtype (.ref 108) (.ref 108)) true := by
  revert X; k_fill; intro X
  exact looks_mroIn X (by kernel_rfl)
theorem fd_call {h : Heap} (X : (hd.heap_1 w.params).In h) : Looks (model Challenge.rw_mq0106_01.row.prog w) h (specialOf (.ref 108) "__call__") (some (.builtin "type.__call__")) := by
  revert X; k_fill; intro X
  exact looks_specialIn X (by kernel_rfl)
theorem fd_typ {h : Heap} (X : (hd.heap_1 w.params).In h) : Looks (model Challenge.rw_mq0106_01.row.prog w) h (isInstance (.ref 108) (.type "type")) true := by
  revert X; k_fill; intro X
  exact looks_instIn X (by kernel_rfl)
theorem fd_init {h : Heap} (X : (hd.heap_1 w.params).In h) : Looks (model Challenge.rw_mq0106_01.row.prog w) h (typeLookup (.ref 108) "__init__") (some (.builtin "collections.defaultdict.__init__")) := by
  revert X; k_fill; intro X
  exact looks_findIn X (by kernel_rfl)
theorem fd_isType {h : Heap} (X : (hd.heap_1 w.params).In h) : Looks (model Challenge.rw_mq0106_01.row.prog w) h (isType (.ref 108)) true := by
  revert X; k_fill; intro X
  exact Looks.of_peek X (by kernel_rfl)
theorem fd_hasDel {h : Heap} (X : (hd.heap_1 w.params).In h) : Looks (model Challenge.rw_mq0106_01.row.prog w) h (classHasDel 108) false := by
  revert X; k_fill; intro X
  exact Looks.of_peek X (by kernel_rfl)
theorem fd_subd {h : Heap} (X : (hd.heap_1 w.params).In h) : Looks (model Challenge.rw_mq0106_01.row.prog w) h (isSubtype (.ref 108) (.type "collections.defaultdict")) true := by
  revert X; k_fill; intro X
  exact looks_mroIn X (by kernel_rfl)
theorem fn_call_lookup : typeLookup (.type "function") "__call__" = pure (some (.builtin "function.__call__")) := by rw [typeLookup_type, builtinLookup_eq_fast]; kernel_rfl
theorem fd_init_args (b lam : Value) : argsOk "collections.defaultdict.__init__" ⟨[b, lam], []⟩ := by unfold argsOk; kernel_rfl
theorem fd_init_kind : builtinKind "collections.defaultdict.__init__" = some .slot := by decide +kernel
theorem fd_init_split : splitId "collections.defaultdict.__init__" = some ("collections.defaultdict", "__init__") := by decide +kernel
theorem fd_subo {h : Heap} (X : (hd.heap_1 w.params).In h) : Looks (model Challenge.rw_mq0106_01.row.prog w) h (isSubtype (.ref 108) (.type "collections.OrderedDict")) false := by
  revert X; k_fill; intro X
  exact looks_mroIn X (by kernel_rfl)
theorem fd_obj {h : Heap} (X : (hd.heap_1 w.params).In h) : ∃ oc od cd sl, h.get? 108 = some ⟨oc, od, .cls cd, sl⟩ := by
  revert X; k_fill; intro X
  exact ⟨_, _, _, _, X _ _ (by k_is)⟩
theorem fd_bind (self : Value) : bindSpecial (.builtin "collections.defaultdict.__init__") self = pure (.builtin "collections.defaultdict.__init__", [self]) :=
  (Slot.of (T := "collections.defaultdict") (name := "__init__") (owner := "collections.defaultdict") (n := "__init__") (by rw [typeLookup_type, builtinLookup_eq_fast]; kernel_rfl) (by decide +kernel) (by decide +kernel) (by decide +kernel)
    (.inl (by decide +kernel)) (by rw [isSubtype_type]; kernel_rfl)).bind self
theorem fd_mro {h : Heap} (X : (hd.heap_1 w.params).In h) : Looks (model Challenge.rw_mq0106_01.row.prog w) h (mroOf (.ref 108)) [.ref 108, .type "collections.defaultdict", .type "dict", .type "object"] := by
  revert X; k_fill; intro X
  exact Looks.of_peek X (by kernel_rfl)
end
noncomputable abbrev fdObj (dx lam : Addr) : Obj := { cls := .ref 108, dict := some dx, data := .dict #[], slots := #[some (.ref lam)] }
section
variable {w : World} {A : Around} {R : Result → Shared → Prop} {h : Heap} {g : Array GenState} {d : Drawn} {t : Nat} {os : OsState}
theorem fd_new (X : (hd.heap_1 w.params).In h) {lam : Addr}
    (hq : R (.ok (.ret (.ref (h.objs.size + 1)))) ⟨(h.push emptyDict).push { cls := .ref 108, dict := some h.objs.size, data := .dict #[] }, g, d, t, os⟩) :
    codeAny (model Challenge.rw_mq0106_01.row.prog w) A (.call (.builtin "dict.__new__") ⟨[.ref 108, .ref lam], []⟩) R ⟨h, g, d, t, os⟩ := by
  refine codeAny_call_builtin_code (Code.quiet_builtin _ (by decide +kernel)) ?_
  have F1 := fd_static X
  have F2 := fd_made X
  have F3 := fd_sub X
  have F4 := fd_mro X
  have k1 : builtinKind "dict.__new__" = some .builtinFn := by decide +kernel
  have k2 : splitId "dict.__new__" = some ("dict", "__new__") := by decide +kernel
  have ha : argsOk "dict.__new__" ⟨[.ref 108, .ref lam], []⟩ := by unfold argsOk; kernel_rfl
  simp only [checkBuiltinCall, k1, k2]
  have here : Looks (model Challenge.rw_mq0106_01.row.prog w) h (Bind.madeHere "dict.__new__" (.ref 108)) () := F1.andThen (F2.andThen (Looks.of_pure (by simp only [Option.map_some, bne_self_eq_false, Bool.false_eq_true, if_false])))
  cases hsig : Manifest.signature? "dict.__new__" with
  | none =>
    exfalso
    have : (Manifest.signature? "dict.__new__").isSome = true := by kernel_rfl
    rw [hsig] at this; cases this
  | some sig =>
    simp only [argsOk, hsig] at ha
    have ha2 : Bind.checkArgs "dict.__new__" sig ⟨[.ref 108, .ref lam], []⟩ = pure () := ha
    have F5 := fd_isType X
    repeat (first | simp only [bne_self_eq_false, beq_self_eq_true, Bool.not_true, Bool.false_eq_true, if_false, if_true] | (rw [ha2]) | lk)
    refine codeAny_builtin fd_entry_new ?_
    unfold Builtin.«dict.__new__»
    have F6 : Looks (model Challenge.rw_mq0106_01.row.prog w) ((h.push emptyDict).push { cls := .ref 108, dict := some h.objs.size, data := .dict #[] }) (classHasDel 108) false := (fd_hasDel X).keeps fun b o e => Heap.get?_push_of_some _ (Heap.get?_push_of_some _ e)
    have hany : ([Value.ref 108, .type "collections.defaultdict", .type "dict", .type "object"].any fun | .type n => !["dict", "object", "collections.defaultdict", "collections.OrderedDict"].contains n | _ => false) = false := by decide +kernel
    repeat (first | simp only [bne_self_eq_false, beq_self_eq_true, Bool.not_true, Bool.false_eq_true, if_false, if_true, hany] | lk)
    rw [Heap.size_push]
    exact hq
theorem fd_init_call (X : (hd.heap_1 w.params).In h) {b dx lam : Addr} {ol : Obj} (hb : h.get? b = some { cls := .ref 108, dict := some dx, data := .dict #[] }) (hl : h.get? lam = some ol) (hlc : ol.cls = .type "function") (hnb : ∀ a o, (hd.heap_1 w.params).lookup a = some o → a ≠ b)
    (hq : ∀ h', h'.get? b = some (fdObj dx lam) → (∀ a, a ≠ b → h'.get? a = h.get? a) → h'.objs.size = h.objs.size → R (.ok (.ret .none)) ⟨h', g, d, t, os⟩) :
    codeAny (model Challenge.rw_mq0106_01.row.prog w) A (.call (.builtin "collections.defaultdict.__init__") ⟨[.ref b, .ref lam], []⟩) R ⟨h, g, d, t, os⟩ := by
  have F1 : Looks (model Challenge.rw_mq0106_01.row.prog w) h (isInstance (.ref b) (.type "collections.defaultdict")) true := ((Looks.ld hb).andThen .now).andThen (fd_subd X)
  have F0 : Looks (model Challenge.rw_mq0106_01.row.prog w) h (typeOf (.ref lam)) (.type "function") := by
    have := (Looks.ld (M := model Challenge.rw_mq0106_01.row.prog w) (part := some headPart) hl).andThen (f := fun o => pure o.cls) .now
    rw [hlc] at this; exact this
  have F2 : Looks (model Challenge.rw_mq0106_01.row.prog w) h (specialOf (.ref lam) "__call__") (some (.builtin "function.__call__")) := F0.andThen (Looks.of_pure fn_call_lookup)
  refine codeAny_call_builtin_at (Code.quiet_builtin _ (by decide +kernel)) fd_entry_init (@check_slot (model Challenge.rw_mq0106_01.row.prog w) _ _ _ "collections.defaultdict.__init__" "collections.defaultdict" "__init__" (.ref b) [.ref lam] [] _ fd_init_kind fd_init_split F1 (fd_init_args (.ref b) (.ref lam)) ?_)
  unfold Builtin.«collections.defaultdict.__init__»
  dsimp only [List.head?]
  rw [if_pos (show (Value.ref lam != Value.none) = true by simp)]
  refine wpAny_bind (F2.at ?_)
  dsimp only [Option.isNone]
  rw [if_neg (by decide)]
  have sl : ∀ {A : Around} {E : Value → Shared → Prop} {Q : Option Value → Shared → Prop}, Q none ⟨h, g, d, t, os⟩ → wpAny (model Challenge.rw_mq0106_01.row.prog w) A (slotAt b 0) Q E ⟨h, g, d, t, os⟩ := fun q => wpAny_bind (wpAny_loadPart hb (wpAny_pure q))
  refine wpAny_bind (sl ?_)
  unfold Collections_defaultdict.setFactory
  dsimp only
  refine wpAny_bind (wpAny_bind (sl ?_))
  rw [if_pos (by simp)]
  unfold slotLetsGo
  dsimp only [Option.getD]
  refine wpAny_bind (wpAny_pure ?_)
  unfold setSlotAt
  rw [if_neg (by rw [sizeLine_eq]; decide)]
  refine wpAny_updatePart hb ?_
  have hu := Heap.get?_update_self (fun o => { o with slots := (o.slots ++ Array.replicate (0 + 1 - o.slots.size) none).setIfInBounds 0 (some (Value.ref lam)) }) hb rfl
  generalize hh' : h.update b (fun o => { o with slots := (o.slots ++ Array.replicate (0 + 1 - o.slots.size) none).setIfInBounds 0 (some (Value.ref lam)) }) = h' at hu
  have hk : ∀ a, a ≠ b → h'.get? a = h.get? a := fun a n => by rw [← hh']; exact Heap.get?_update_other _ _ (Ne.symm n)
  have hz : h'.objs.size = h.objs.size := by rw [← hh']; exact Heap.size_after_update _ _ _
  have hne : ∀ a o, (hd.heap_1 w.params).lookup a = some o → a ≠ b := hnb
  have F3 : Looks (model Challenge.rw_mq0106_01.row.prog w) h' (typeOf (.ref b)) (.ref 108) := (Looks.ld hu).andThen .now
  have F4 : Looks (model Challenge.rw_mq0106_01.row.prog w) h' (isSubtype (.ref 108) (.type "collections.OrderedDict")) false := fd_subo (fun a o q => (hk a (hne a o q)).trans (X a o q))
  refine wpAny_bind (wpAny_holding (wpAny_runValue (codeAny_builtin fd_entry_dinit ?_)))
  unfold Builtin.«dict.__init__» Builtin.Dict.selfAndRest Builtin.Dict.notOrdered isInstance
  dsimp only [List.drop, List.headD]
  rw [if_pos (by decide +kernel)]
  refine wpAny_bind (wpAny_bind (wpAny_bind (F3.at ?_)))
  rw [if_pos (by decide)]
  refine wpAny_bind (wpAny_bind (F3.at (F4.at ?_)))
  rw [if_neg (by decide)]
  refine wpAny_pure (wpAny_bind (wpAny_pure (wpAny_pure ?_)))
  unfold Builtin.Dict.updateCommon Builtin.Dict.addKeywords
  dsimp only
  refine wpAny_bind ?_
  show wpAny _ _ (pure ()) _ _ _
  exact wpAny_pure (wpAny_pure (wpAny_pure (hq h' hu hk hz)))
theorem fd_make (X : (hd.heap_1 w.params).In h) {lam : Addr} {ol : Obj} (hl : h.get? lam = some ol) (hlc : ol.cls = .type "function")
    (hq : ∀ h', h'.get? h.objs.size = some emptyDict → h'.get? (h.objs.size + 1) = some (fdObj h.objs.size lam) → (∀ a o, h.get? a = some o → h'.get? a = some o) → h'.objs.size = h.objs.size + 2 → R (.ok (.ret (.ref (h.objs.size + 1)))) ⟨h', g, d, t, os⟩) :
    codeAny (model Challenge.rw_mq0106_01.row.prog w) A (.call (.ref 108) ⟨[.ref lam], []⟩) R ⟨h, g, d, t, os⟩ := by
  have call := fd_call X
  have typ := fd_typ X
  have made := fd_made X
  have self := fd_self X
  have hm := fd_mro X
  obtain ⟨oc, od, cd, sl, hC⟩ := fd_obj X
  refine codeAny_of_tree ?_
  show wpAny _ _ (callAny (.ref 108) _) _ _ _
  refine nd_load hC ?_
  show wpAny _ _ (callAny.viaDunder (.ref 108) _) _ _ _
  unfold callAny.viaDunder
  refine wpAny_bind (call.at ?_)
  dsimp only
  rw [tc_bind]
  refine wpAny_bind (wpAny_pure (wpAny_bind (wpAny_pure ?_)))
  refine wpAny_pure (a := Fin.again (.call (.builtin "type.__call__") ⟨[.ref 108, .ref lam], []⟩)) (And.intro rfl ?_)
  refine codeAny_call_builtin_at (Code.quiet_builtin _ (by decide +kernel)) entry_typeCall (check_slot tc_kind tc_split typ (tc_args _ _ _) ?_)
  unfold Builtin.«type.__call__»
  repeat (first | simp only [List.isEmpty, Bool.false_eq_true, if_false] | with_reducible refine wpAny_call ?_ | lk)
  refine fd_new X ?_
  dsimp only
  have k : ∀ b o, h.get? b = some o → ((h.push emptyDict).push { cls := .ref 108, dict := some h.objs.size, data := .dict #[] }).get? b = some o := fun b o e => Heap.get?_push_of_some _ (Heap.get?_push_of_some _ e)
  have hx : ((h.push emptyDict).push { cls := .ref 108, dict := some h.objs.size, data := .dict #[] }).get? (h.objs.size + 1) = some { cls := .ref 108, dict := some h.objs.size, data := .dict #[] } := by
    have := Heap.get?_push_size (h.push emptyDict) (o := { cls := .ref 108, dict := some h.objs.size, data := .dict #[] }) rfl
    rwa [Heap.size_push] at this
  have hdx : ((h.push emptyDict).push { cls := .ref 108, dict := some h.objs.size, data := .dict #[] }).get? h.objs.size = some emptyDict := Heap.get?_push_of_some _ (Heap.get?_push_size h rfl)
  have X2 : (hd.heap_1 w.params).In ((h.push emptyDict).push { cls := .ref 108, dict := some h.objs.size, data := .dict #[] }) := fun a o q => k a o (X a o q)
  have t1 : Looks (model Challenge.rw_mq0106_01.row.prog w) ((h.push emptyDict).push { cls := .ref 108, dict := some h.objs.size, data := .dict #[] }) (typeOf (.ref (h.objs.size + 1))) (.ref 108) := (Looks.ld hx).andThen .now
  have s1 := self.keeps k
  have i1 := (fd_init X).keeps k
  have b1 : Looks (model Challenge.rw_mq0106_01.row.prog w) ((h.push emptyDict).push { cls := .ref 108, dict := some h.objs.size, data := .dict #[] }) (bindSpecial (.builtin "collections.defaultdict.__init__") (.ref (h.objs.size + 1))) (.builtin "collections.defaultdict.__init__", [.ref (h.objs.size + 1)]) := Looks.of_pure (fd_bind _)
  unfold isInstance callSpecial? specialOf
  repeat (first | with_reducible refine wpAny_call ?_ | lk)
  refine fd_init_call X2 hx (k _ _ hl) hlc (fun a o q z => ?_) fun h' hb' ho hz => ?_
  · have := Heap.lt_size (X a o q); rw [z] at this; exact absurd this (Nat.not_lt.mpr (Nat.le_succ _))
  · refine wpAny_pure (wpAny_pure (hq h' ((ho _ (Nat.ne_of_lt (Nat.lt_succ_self _))).trans hdx) hb' (fun a o q => (ho a fun z => ?_).trans (k a o q)) (by rw [hz, Heap.size_push, Heap.size_push])))
    have := Heap.lt_size q; rw [z] at this; exact absurd this (Nat.not_lt.mpr (Nat.le_succ _))
end
end
theorem off_D2 : True := by
  w_top off
  k_with_none
  trivial
-- D2
section
open PySem PySem.W PyProof.Rows PySem.Calls Builtin Builtin.ObjectAttr Builtin.Getset_descriptor
theorem check_method {M : Model} {A : Around} {E : Value → Shared → Prop} {s : Shared} {i owner n : String} {self : Value} {rest : List Value} {kw : List (Str × Value)} {Q : Unit → Shared → Prop}
    (hk : builtinKind i = some .method) (hs : splitId i = some (owner, n)) (hi : Looks M s.heap (isInstance self (.type owner)) true) (ha : argsOk i ⟨self :: rest, kw⟩) (q : Q () s) :
    wpAny M A (checkBuiltinCall i ⟨self :: rest, kw⟩) Q E s := by
  simp only [checkBuiltinCall, hk, hs]
  refine wpAny_bind (hi.here ?_)
  simp only [Bool.not_true, Bool.false_eq_true, if_false]
  cases hsig : Manifest.signature? i with
  | none => exact wpAny_pure q
  | some sig =>
    simp only [argsOk, hsig] at ha
    have h2 : Bind.checkArgs i sig ⟨self :: rest, kw⟩ = pure () := ha
    show wpAny M A (Bind.checkArgs i sig ⟨self :: rest, kw⟩) Q E s
    rw [h2]; exact wpAny_pure q
theorem dg_entry : entryFor table "dict.__getitem__" = some Builtin.«dict.__getitem__» := entryFor_of_tree (by kernel_rfl)
theorem dg_kind : builtinKind "dict.__getitem__" = some .method := by decide +kernel
theorem dg_split : splitId "dict.__getitem__" = some ("dict", "__getitem__") := by decide +kernel
theorem dg_args (b k : Value) : argsOk "dict.__getitem__" ⟨[b, k], []⟩ := by unfold argsOk; kernel_rfl
theorem dg_bind (self : Value) : bindSpecial (.builtin "dict.__getitem__") self = pure (.builtin "dict.__getitem__", [self]) :=
  (Slot.of (T := "collections.defaultdict") (name := "__getitem__") (owner := "dict") (n := "__getitem__") (by rw [typeLookup_type, builtinLookup_eq_fast]; kernel_rfl) (by decide +kernel) (by decide +kernel) (by decide +kernel)
    (.inr (by decide +kernel)) (by rw [isSubtype_type]; kernel_rfl)).bind self
section
variable {w : World}
theorem fd_getitem {h : Heap} (X : (hd.heap_1 w.params).In h) : Looks (model Challenge.rw_mq0106_01.row.prog w) h (typeLookup (.ref 108) "__getitem__") (some (.builtin "dict.__getitem__")) := by
  revert X; k_fill; intro X
  exact looks_findIn X (by kernel_rfl)
theorem fd_seq {h : Heap} (X : (hd.heap_1 w.params).In h) : Looks (model Challenge.rw_mq0106_01.row.prog w) h (seqItemTypes.anyM fun n => isSubtype (.ref 108) (.type n)) false := by
  revert X; k_fill; intro X
  exact Looks.of_peek X (by kernel_rfl)
end
section
variable {w : World} {A : Around} {E : Value → Shared → Prop} {h : Heap} {g : Array GenState} {d : Drawn} {t : Nat} {os : OsState}
theorem fd_item {b : Addr} {ob : Obj} {x : Str} {tx : Tok} {Q : Value → Shared → Prop} (X : (hd.heap_1 w.params).In h) (hb : h.get? b = some ob) (hc : ob.cls = .ref 108)
    (hq : codeAny (model Challenge.rw_mq0106_01.row.prog w) A (.builtin "dict.__getitem__" ⟨[.ref b, .str x tx], []⟩) (fun r s' => match r with | .ok (.ret v) => Q v s' | .ok _ => False | .error e => E e s') ⟨h, g, d, t, os⟩) :
    wpAny (model Challenge.rw_mq0106_01.row.prog w) A (getItem (.ref b) (.str x tx)) Q E ⟨h, g, d, t, os⟩ := by
  have F0 : Looks (model Challenge.rw_mq0106_01.row.prog w) h (typeOf (.ref b)) (.ref 108) := by
    have := (Looks.ld (M := model Challenge.rw_mq0106_01.row.prog w) (part := some headPart) hb).andThen (f := fun o => pure o.cls) .now
    rw [hc] at this; exact this
  have F1 : Looks (model Challenge.rw_mq0106_01.row.prog w) h (isInstance (.ref b) (.type "dict")) true := F0.andThen (fd_sub X)
  have F2 := fd_getitem X
  have F3 := fd_seq X
  have F4 : Looks (model Challenge.rw_mq0106_01.row.prog w) h (bindSpecial (.builtin "dict.__getitem__") (.ref b)) (.builtin "dict.__getitem__", [.ref b]) := Looks.of_pure (dg_bind _)
  unfold getItem sequenceKey callSpecial? specialOf
  refine wpAny_holding ?_
  refine wpAny_bind (wpAny_bind (F0.at ?_))
  dsimp only
  refine wpAny_bind (F3.at ?_)
  rw [if_pos (by decide)]
  refine wpAny_pure (wpAny_bind (wpAny_bind (wpAny_bind (F0.at (F2.at ?_)))))
  dsimp only
  refine wpAny_holding (wpAny_bind (F4.at ?_))
  dsimp only [List.singleton_append]
  refine wpAny_bind (wpAny_call (codeAny_call_builtin_code (Code.quiet_builtin _ (by decide +kernel)) ?_))
  refine @check_method (model Challenge.rw_mq0106_01.row.prog w) _ _ _ "dict.__getitem__" "dict" "__getitem__" (.ref b) [.str x tx] [] _ dg_kind dg_split F1 (dg_args _ _) ?_
  refine codeAny_mono hq fun r s' z => ?_
  rcases r with e | (v | _ | _ | _) <;> first | exact z | exact z.elim | skip
  exact wpAny_pure (wpAny_pure z)
noncomputable abbrev SK (w : World) := PySem.strKind Challenge.rw_mq0106_01.row.prog w
theorem sk_key {w : World} {x : Str} {tx : Tok} : (SK w).is x (.str x tx) = true := by simp [PySem.strKind, Value.isStrOf]
theorem fd_dictGet {b : Addr} {ob : Obj} {es : Array DictEntry} {ep : Nat} {x : Str} {tx : Tok} {Q : Option Value → Shared → Prop} (hb : h.get? b = some ob) (hd : ob.data = .dict es ep) (hk : KeysOf (SK w) es)
    (hq : Q (findBy (SK w).is es x) ⟨h, g, d, t + 1, os⟩) : wpAny (model Challenge.rw_mq0106_01.row.prog w) A (dictGet b (.str x tx)) Q E ⟨h, g, d, t, os⟩ := by
  unfold dictGet
  refine wpAny_holding ?_
  refine wpAny_bind ((SK w).pyHash sk_key (wpAny_bind (wpAny_dictFind_of (knd := SK w) (s := ⟨h, g, d, t + 1, os⟩) sk_key hb hd hk ?_)))
  rw [findBy_of_findIdx?] at hq
  cases hi : es.findIdx? fun e => (SK w).is x e.key with
  | none => rw [hi] at hq; exact wpAny_pure hq
  | some i => rw [hi] at hq; exact wpAny_bind (wpAny_dictEntries (s := ⟨h, g, d, t + 1, os⟩) hb hd (wpAny_pure hq))
theorem fd_hit {b : Addr} {ob : Obj} {es : Array DictEntry} {ep : Nat} {x : Str} {tx : Tok} {v : Value} {Q : Value → Shared → Prop} (X : (hd.heap_1 w.params).In h) (hb : h.get? b = some ob) (hc : ob.cls = .ref 108) (hd : ob.data = .dict es ep)
    (hk : KeysOf (SK w) es) (hv : findBy (SK w).is es x = some v) (hq : Q v ⟨h, g, d, t + 1, os⟩) :
    wpAny (model Challenge.rw_mq0106_01.row.prog w) A (getItem (.ref b) (.str x tx)) Q E ⟨h, g, d, t, os⟩ := by
  refine fd_item X hb hc (codeAny_builtin dg_entry ?_)
  show wpAny _ _ (dictGet b (.str x tx) >>= _) _ _ _
  refine wpAny_bind (fd_dictGet hb hd hk ?_)
  rw [hv]
  exact wpAny_pure hq
theorem au_depth {A : Around} {c d : Value} : (A.under (.builtin "dict.__getitem__" ⟨[c, d], []⟩)).depth = A.depth := by
  first | rfl | (unfold Around.under; simp) 
theorem au_handled {A : Around} {c d : Value} : (A.under (.builtin "dict.__getitem__" ⟨[c, d], []⟩)).handled = A.handled := by
  first | rfl | (unfold Around.under; simp) 
theorem au_frames {A : Around} {c d : Value} : (A.under (.builtin "dict.__getitem__" ⟨[c, d], []⟩)).frames = A.frames := by
  first | rfl | (unfold Around.under; simp) 
theorem fd_missing {h : Heap} (X : (hd.heap_1 w.params).In h) : Looks (model Challenge.rw_mq0106_01.row.prog w) h (typeLookup (.ref 108) "__missing__") (some (.ref 98)) := by
  revert X; k_fill; intro X
  exact looks_findIn X (by kernel_rfl)
theorem fd_missing_bind {h : Heap} (X : (hd.heap_1 w.params).In h) (self : Value) : Looks (model Challenge.rw_mq0106_01.row.prog w) h (bindSpecial (.ref 98) self) (.ref 98, [self]) := by
  revert X; k_fill; intro X
  exact bind_fn X self (by kernel_rfl)
theorem fd_miss {b : Addr} {ob : Obj} {es : Array DictEntry} {ep : Nat} {x : Str} {tx : Tok} {Q : Value → Shared → Prop} (X : (hd.heap_1 w.params).In h) (hb : h.get? b = some ob) (hc : ob.cls = .ref 108) (hd : ob.data = .dict es ep)
    (hk : KeysOf (SK w) es) (hv : findBy (SK w).is es x = none) (hs : (b == sysModules) = false)
    (hq : ∀ A' : Around, A'.depth = A.depth → A'.handled = A.handled → A'.frames = A.frames → codeAny (model Challenge.rw_mq0106_01.row.prog w) A' (.call (.ref 98) ⟨[.ref b, .str x tx], []⟩) (fun r s' => match r with | .ok (.ret v) => Q v s' | .ok _ => False | .error e => E e s') ⟨h, g, d, t + 1, os⟩) :
    wpAny (model Challenge.rw_mq0106_01.row.prog w) A (getItem (.ref b) (.str x tx)) Q E ⟨h, g, d, t, os⟩ := by
  refine fd_item X hb hc (codeAny_builtin dg_entry ?_)
  show wpAny _ _ (dictGet b (.str x tx) >>= _) _ _ _
  refine wpAny_bind (fd_dictGet hb hd hk ?_)
  rw [hv]
  show wpAny _ _ (Builtin.Dict.missed b (.str x tx) >>= _) _ _ _
  refine wpAny_bind (wpAny_missed_other hs ?_)
  have F0 : Looks (model Challenge.rw_mq0106_01.row.prog w) h (typeOf (.ref b)) (.ref 108) := by
    have := (Looks.ld (M := model Challenge.rw_mq0106_01.row.prog w) (part := some headPart) hb).andThen (f := fun o => pure o.cls) .now
    rw [hc] at this; exact this
  dsimp only
  refine wpAny_bind (F0.at ?_)
  rw [if_pos (by decide)]
  have F2 := fd_missing X
  have F4 := fd_missing_bind X (.ref b)
  unfold callSpecial? specialOf
  refine wpAny_bind (wpAny_bind (wpAny_bind (F0.at (F2.at ?_))))
  dsimp only
  refine wpAny_holding (wpAny_bind (F4.at ?_))
  dsimp only [List.singleton_append]
  refine wpAny_bind (wpAny_call (codeAny_mono (hq _ ?_ ?_ ?_) fun r s' z => ?_))
  · exact au_depth
  · exact au_handled
  · exact au_frames
  rcases r with e | (v | _ | _ | _) <;> first | exact z | exact z.elim | skip
  exact wpAny_pure (wpAny_bind (wpAny_rule (wpAny_pure z)))
end
end
theorem off_D3 : True := by
  w_top off
  k_with_none
  trivial
-- D3
section
open PySem PySem.W PyProof.Rows PySem.Calls
section
variable {α β : Type} {M : Model} {A : Around} {c : Code} {E : Value → Shared → Prop} {s : Shared} {env : Env}
theorem at_any {t : Sem α} {Q : α → Shared → Prop} (h : wpAny M A t Q E s) : _root_.PySem.wpAt M A c t Q E s := PySem.wpAt_of_wpAny h
theorem at_bind {m : Sem α} {f : α → Sem β} {Q : β → Shared → Prop} (h : _root_.PySem.wpAt M A c m (fun a s' => _root_.PySem.wpAt M A c (f a) Q E s') E s) : _root_.PySem.wpAt M A c (m >>= f) Q E s := PySem.wpAt_bind h
theorem at_mono {t : Sem α} {Q Q' : α → Shared → Prop} (h : _root_.PySem.wpAt M A c t Q E s) (q : ∀ a s', Q a s' → Q' a s') : _root_.PySem.wpAt M A c t Q' E s := PySem.wpAt_mono h q fun _ _ x => x
theorem at_hold {vs : List Value} {m : Sem α} {Q : α → Shared → Prop} (h : _root_.PySem.wpAt M A c m Q E s) : _root_.PySem.wpAt M A c (holding vs m) Q E s := ks_wpAt_holding h
theorem at_spliced_nil {Q : List Value → Shared → Prop} (h : Q [] s) : _root_.PySem.wpAt M A c (spliced []) Q E s := at_any (spliced_nil h)
theorem at_spliced_cons {x : Sem Value} {rest : List (Bool × Sem Value)} {Q : List Value → Shared → Prop}
    (h : _root_.PySem.wpAt M A c x (fun v s₁ => _root_.PySem.wpAt M A c (spliced rest) (fun vs s₂ => Q (v :: vs) s₂) E s₁) E s) : _root_.PySem.wpAt M A c (spliced ((false, x) :: rest)) Q E s := by
  unfold spliced
  refine at_bind (at_mono h fun v s₁ h₁ => ?_)
  simp only [Bool.false_eq_true, if_false]
  refine at_bind (at_any (wpAny_pure ?_))
  exact at_bind (at_hold (at_mono h₁ fun vs s₂ h₂ => at_any (wpAny_pure h₂)))
theorem at_evalArgs {f : Value} {x : Sem Value} {rest : List (Bool × Sem Value)} {Q : Args → Shared → Prop}
    (h : _root_.PySem.wpAt M A c (spliced ((false, x) :: rest)) (fun vs s' => Q ⟨vs, []⟩ s') E s) : _root_.PySem.wpAt M A c (evalArgs f true ((false, x) :: rest) []) Q E s := by
  unfold evalArgs
  show _root_.PySem.wpAt M A c (spliced ((false, x) :: rest) >>= _) Q E s
  refine at_bind (at_mono h (fun vs s' h' => at_any (wpAny_holding ?_)))
  exact wpAny_bind (wpAny_pure (wpAny_bind (wpAny_pure (wpAny_pure h'))))
theorem at_callWith_builtin {pos : Pos} {id : String} {args : List (Bool × Sem Value)} {Q : Value → Shared → Prop} (hplain : args.any (·.1) = false)
    (h : _root_.PySem.wpAt M A c (evalArgs (.builtin id) true args []) (fun a s₁ => wpAny M A (call (.builtin id) a.pos a.kw) Q E s₁) E s) :
    _root_.PySem.wpAt M A c (callWith pos (.builtin id) [] args []) Q E s := by
  unfold callWith
  refine at_bind (at_hold (at_mono h (fun a s₁ h₁ => at_any (wpAny_bind (wpAny_standAt ?_)))))
  simp only [hplain, List.any_nil, Bool.or_false]
  refine wpAny_bind (wpAny_pure ?_)
  refine wpAny_bind (wpAny_mono h₁ (fun r s₂ h₂ => ?_) fun _ _ x => x)
  exact wpAny_bind (wpAny_holding (wpAny_point (wpAny_pure h₂)))
end
section
variable {w : World} {A : Around} {s : Shared} {hb : Heap} {loose : List Str} {mean : ExcName → Option Value} {mg mb : Str → Option Value} {prog : Program} {K : Frag} {p : Program}
  {R : Result → Shared → Prop} {name qual : Str} {params : Arguments} {body : List Stmt} {scope : Scope} {dV kV doc pm cdv ct oc : Value} {an od : Option Addr} {osl : Array (Option Value)} {f cc : Addr} {args : Args} {binds : List (Str × Value)}
theorem nm_builtin {E : Value → Shared → Prop} {h₀ : Heap} {L : Addr} {m mg mb : Str → Option Value} {Q : Value → Shared → Prop} {env : Env} {x : Str} {pos : Pos} {v : Value} (F : Fr h₀ L s.heap m) (X : K.In h₀) (T : Top p loose mean mg mb h₀) (hn : nsIn K mainGlobals x = some none) (hboot : bootBuiltins x = some v) (h : Q v s)
    (hg : env.globals = mainGlobals := by rfl) (hbu : env.builtins = builtinsNs := by rfl) (hk : env.scope.kind = .function := by rfl) (hx : env.kindOf x = some .globalImplicit := by rfl) (hne : x ≠ "__name__" := by decide +kernel) (hd : (x == ("__debug__" : Str)) = false := by decide) {M : Model} : wpAny M A (eval (.Name x pos) env) Q E s :=
  wpAny_Name (ks_loadName_global hk hx (loadGlobal_builtin (env := env) (by rw [hg]; exact T.g.keeps F.keep) (mg_none_of X T.g hn) (by rw [hbu]; exact T.b.keeps F.keep) ((T.builtins _ hne).trans hboot) h)) hd
theorem nmX_local {E : Value → Shared → Prop} {h₀ : Heap} {L : Addr} {m : Str → Option Value} {Q : Value → Shared → Prop} {env : Env} {x : Str} {pos : Pos} {v : Value} {M : Model} (F : Fr h₀ L s.heap m) (hL : env.locals = L) (hv : m x = some v) (h : Q v s) (hk : env.scope.kind = .function := by rfl) (hx : env.kindOf x = some .local := by rfl) (hd : (x == ("__debug__" : Str)) = false := by decide) :
    wpAny M A (eval (.Name x pos) env) Q E s := by subst hL; exact wpAny_Name (wpAny_loadName_local hk hx F.ns hv h) hd
/-- enter, for a method that closes over its class alone -/
theorem enterS (X : K.In hb) (T : Top p loose mean mg mb hb) (S : hb.StaysIn s.heap) (D : List (Addr × Obj)) (hD : ∀ q ∈ D, s.heap.get? q.1 = some q.2 ∧ hb.get? q.1 = none)
    (ho : K.lookup f = some ⟨oc, od, .func (ksFn name qual params body scope dV kV doc pm an cdv ct cc), osl⟩) (hcd : codeIn K cdv qual = true) (hroom : A.depth < recursionLimit)
    (hbind : BindsTo s (ksFn name qual params body scope dV kV doc pm an cdv ct cc) args binds) (hloc : ∀ y ∈ binds, scope.names.lookup y.1 = some .local)
    (h : ∀ g L h₁, Fr g L h₁ (fun y => binds.reverse.lookup y) → News g L h₁ D → K.In g → Top p loose mean mg mb g → hb.StaysIn g →
      (∀ a o, a ∉ D.map (·.1) → s.heap.get? a = some o → g.get? a = some o) → s.heap.objs.size = L → (∀ q ∈ D, q.1 < L) →
      _root_.PySem.wpAt (model prog w) (A.deeper (ksEnv qual scope L f cdv cc)) (.func body (ksEnv qual scope L f cdv cc)) (execs body (ksEnv qual scope L f cdv cc))
        (fun fl s' => R (.ok (.ret (match fl with | .ret v => v | _ => .none))) s')
        (fun e s' => wpAny (model prog w) (A.deeper (ksEnv qual scope L f cdv cc)) (leaving (ksEnv qual scope L f cdv cc) e) (fun _ s'' => R (.error e) s'') (fun e' s'' => R (.error e') s'') s')
        { s with heap := h₁, toks := s.toks + binds.length })
    (hcell : ∀ x ∈ scope.names, x.2 ≠ .cell) (hco : scope.isCoroutine = false := by rfl) (hgen : scope.isGenerator = false := by rfl) (hk : scope.kind = .function := by rfl) : codeAny (model prog w) A (.call (.ref f) args) R s := by
  refine ks_codeAny_call_defAt (fd := ksFn name qual params body scope dV kV doc pm an cdv ct cc) (body := body) (binds := binds) hroom (S _ _ (X _ _ ho)) rfl (T.nolimit.keeps S) (codeRec_of (X.keeps S) hcd) rfl hbind hcell hloc (fun h₁ hns hk₁ => ?_) hco hgen hk
  have nm : ∀ b o, hb.get? b = some o → b ∉ D.map (·.1) := fun b o e q => by
    obtain ⟨q', hq, rfl⟩ := List.mem_map.mp q
    rw [(hD _ hq).2] at e; cases e
  have st : hb.StaysIn (hideAll s.heap (D.map (·.1))) := fun b o e => hideAll_get _ (S b o e) (nm b o e)
  refine h (hideAll s.heap (D.map (·.1))) s.heap.objs.size h₁ ⟨hns, fun b o e => hk₁ b o (of_hideAll _ e), Nat.le_of_eq (hideAll_size _ _)⟩ (fun q hq => ⟨hk₁ _ _ (hD q hq).1, Nat.ne_of_lt (Heap.lt_size (hD q hq).1), hideAll_none _ (List.mem_map_of_mem hq)⟩)
    (Frag.In.keeps (h' := hideAll s.heap (D.map (·.1))) X fun b o e => st b o e) (Top.keeps (h' := hideAll s.heap (D.map (·.1))) T fun b o e => st b o e) st (fun a o n e => hideAll_get _ e n) rfl (fun q hq => Heap.lt_size (hD q hq).1)
end
section
variable {w : World} {A : Around} {s : Shared} {hb : Heap} {loose : List Str} {mean : ExcName → Option Value} {mg mb : Str → Option Value} {R : Result → Shared → Prop}
end
end
theorem off_D4 : True := by
  w_top off
  k_with_none
  trivial
-- D4
section
open PySem PySem.W PyProof.Rows PySem.Calls Builtin Builtin.ObjectAttr Builtin.Getset_descriptor
noncomputable abbrev boundObj (id : String) (b : Addr) : Obj := { cls := .type "builtin_function_or_method", data := .fields #[.builtin id, .ref b] }
theorem md_entry : entryFor table "method_descriptor.__get__" = some Builtin.«method_descriptor.__get__» := entryFor_of_tree (by kernel_rfl)
theorem md_kind : builtinKind "method_descriptor.__get__" = some .slot := by decide +kernel
theorem md_split : splitId "method_descriptor.__get__" = some ("method_descriptor", "__get__") := by decide +kernel
theorem md_args (a b c : Value) : argsOk "method_descriptor.__get__" ⟨[a, b, c], []⟩ := by unfold argsOk; kernel_rfl
section
variable {w : World} {h : Heap}
theorem sm_own (X : (hd.heap_1 w.params).In h) : Looks (model Challenge.rw_mq0106_01.row.prog w) h (classOwn (.type "collections.defaultdict") "__missing__") (some (.builtin "collections.defaultdict.__missing__")) := by
  revert X; k_fill; intro X
  exact looks_ownIn X (by kernel_rfl)
theorem sm_type (X : (hd.heap_1 w.params).In h) : Looks (model Challenge.rw_mq0106_01.row.prog w) h (typeOf (.builtin "collections.defaultdict.__missing__")) (.type "method_descriptor") := by
  revert X; k_fill; intro X
  exact looks_typeIn X (by kernel_rfl)
theorem sm_get (X : (hd.heap_1 w.params).In h) : Looks (model Challenge.rw_mq0106_01.row.prog w) h (typeLookup (.type "method_descriptor") "__get__") (some (.builtin "method_descriptor.__get__")) := by
  revert X; k_fill; intro X
  exact looks_findIn X (by kernel_rfl)
theorem sm_op (X : (hd.heap_1 w.params).In h) : Looks (model Challenge.rw_mq0106_01.row.prog w) h (opaqueClassAbove (.ref 108)) none := by
  revert X; k_fill; intro X
  exact looks_opaque X (by kernel_rfl)
theorem sm_inst (X : (hd.heap_1 w.params).In h) : Looks (model Challenge.rw_mq0106_01.row.prog w) h (isInstance (.builtin "collections.defaultdict.__missing__") (.type "method_descriptor")) true := by
  revert X; k_fill; intro X
  exact looks_instIn X (by kernel_rfl)
end
section
variable {w : World} {A : Around} {E : Value → Shared → Prop} {h : Heap} {g : Array GenState} {d : Drawn} {t : Nat} {os : OsState}
theorem md_call {b : Addr} {ob : Obj} {Q : Value → Shared → Prop} (X : (hd.heap_1 w.params).In h) (hb : h.get? b = some ob) (hc : ob.cls = .ref 108) (hq : Q (.ref h.objs.size) ⟨h.push (boundObj "collections.defaultdict.__missing__" b), g, d, t, os⟩) :
    wpAny (model Challenge.rw_mq0106_01.row.prog w) A (call (.builtin "method_descriptor.__get__") [.builtin "collections.defaultdict.__missing__", .ref b, .ref 108] []) Q E ⟨h, g, d, t, os⟩ := by
  have F0 : Looks (model Challenge.rw_mq0106_01.row.prog w) h (typeOf (.ref b)) (.ref 108) := by
    have := (Looks.ld (M := model Challenge.rw_mq0106_01.row.prog w) (part := some headPart) hb).andThen (f := fun o => pure o.cls) .now
    rw [hc] at this; exact this
  have F1 : Looks (model Challenge.rw_mq0106_01.row.prog w) h (isInstance (.ref b) (.type "collections.defaultdict")) true := F0.andThen (fd_subd X)
  refine wpAny_call (codeAny_call_builtin_code (Code.quiet_builtin _ (by decide +kernel)) ?_)
  refine @check_slot (model Challenge.rw_mq0106_01.row.prog w) _ _ _ "method_descriptor.__get__" "method_descriptor" "__get__" (.builtin "collections.defaultdict.__missing__") [.ref b, .ref 108] [] _ md_kind md_split (sm_inst X) (md_args _ _ _) ?_
  refine codeAny_builtin md_entry ?_
  unfold Builtin.«method_descriptor.__get__»
  have hto : Manifest.toldItsClass.contains "collections.defaultdict.__missing__" = false := by decide +kernel
  have hm := fd_mro X
  repeat (first | simp only [hto, Bool.false_eq_true, if_false] | lk)
  exact hq
theorem sup_ga {so b : Addr} {ob : Obj} {tk : Tok} {Q : Fin → Shared → Prop} (X : (hd.heap_1 w.params).In h) (hso : h.get? so = some (ks_superObj 108 b 108)) (hb : h.get? b = some ob) (hc : ob.cls = .ref 108) (hne : b ≠ 108)
    (hq : Q (.done (.ret (.ref h.objs.size))) ⟨h.push (boundObj "collections.defaultdict.__missing__" b), g, d, t, os⟩) :
    wpAny (model Challenge.rw_mq0106_01.row.prog w) A (Builtin.«super.__getattribute__» ⟨[.ref so, .str "__missing__" tk], []⟩) Q E ⟨h, g, d, t, os⟩ := by
  have hdt : (ks_superObj 108 b 108).data = .fields #[.ref 108, .ref b, .ref 108] := rfl
  have f0 : (#[.ref 108, .ref b, .ref 108] : Array Value)[0]? = some (.ref 108) := rfl
  have f1 : (#[.ref 108, .ref b, .ref 108] : Array Value)[1]? = some (.ref b) := rfl
  have f2 : (#[.ref 108, .ref b, .ref 108] : Array Value)[2]? = some (.ref 108) := rfl
  have hm := fd_mro X
  have c1 := sm_own X
  have c2 := sm_type X
  have c3 := sm_get X
  have hbn : (Value.ref b == Value.ref 108) = false := by simp [hne]
  unfold Builtin.«super.__getattribute__»
  repeat (first
    | (with_reducible refine wpAny_field hso hdt f0 ?_) | (with_reducible refine wpAny_field hso hdt f1 ?_) | (with_reducible refine wpAny_field hso hdt f2 ?_)
    | (with_reducible refine ks_wpAny_notOpaque (sm_op X) ?_)
    | (with_reducible refine Looks.at hm ?_)
    | (with_reducible refine Looks.at c1 ?_)
    | (with_reducible refine Looks.at c2 ?_)
    | (with_reducible refine Looks.at c3 ?_)
    | (with_reducible refine md_call X hb hc ?_)
    | (simp only [hbn, Bool.or_false, Bool.false_eq_true, if_false])
    | wp_step
    | dsimp only)
  exact hq
theorem sup_missing {so b : Addr} {ob : Obj} {Q : Value → Shared → Prop} (X : (hd.heap_1 w.params).In h) (hso : h.get? so = some (ks_superObj 108 b 108)) (hb : h.get? b = some ob) (hc : ob.cls = .ref 108) (hne : b ≠ 108)
    (hq : Q (.ref h.objs.size) ⟨h.push (boundObj "collections.defaultdict.__missing__" b), g, d, t + 1, os⟩) :
    wpAny (model Challenge.rw_mq0106_01.row.prog w) A (getAttr (.ref so) "__missing__" true) Q E ⟨h, g, d, t, os⟩ := by
  have hlk := F.ks_slot_super_ga.lookup
  have hT : ∀ t', (⟨h, g, d, t', os⟩ : Shared).TypeIs (.ref so) "super" := fun _ => ⟨_, hso, rfl⟩
  unfold getAttr getAttrBy
  refine wpAny_bind (wpAny_mkText (wpAny_holding (wpAny_bind (wpAny_typeOf (hT _) (wpAny_bind (wpAny_of_eq hlk ?_))))))
  show wpAny _ _ (getAttrByItsOwn (.ref so) (.str "__missing__" t) (.type "super") (.builtin "super.__getattribute__") true true) _ _ _
  unfold getAttrByItsOwn hookBefore callGetattribute boundAndCalled
  refine wpAny_bind (wpAny_of_eq (show (if onTheHeap (.type "super") then typeLookup (.type "super") "__getattr__" else pure none) = pure none from rfl) ?_)
  refine wpAny_bind (wpAny_attempt (wpAny_holding ?_))
  show wpAny _ _ (bindSpecial (.builtin "super.__getattribute__") (.ref so) >>= _) _ _ _
  refine wpAny_bind (wpAny_of_eq (F.ks_slot_super_ga.bind _) ?_)
  refine wpAny_mono (Q := fun v s' => v = .ref h.objs.size ∧ s' = ⟨h.push (boundObj "collections.defaultdict.__missing__" b), g, d, t + 1, os⟩) (E := fun _ _ => False)
    (wpAny_call_entry F.ks_slot_super_ga (hT _) F.ks_entry_super_ga (sup_ga X hso hb hc hne ⟨_, rfl, rfl, rfl⟩) (F.ks_gaArgs_super _ _)) (fun v s' hv => ?_) fun _ _ z => z.elim
  obtain ⟨rfl, rfl⟩ := hv
  exact wpAny_pure hq
end
end
theorem off_D5 : True := by
  w_top off
  k_with_none
  trivial
-- D5
section
open PySem PySem.W PyProof.Rows PySem.Calls Builtin Builtin.ObjectAttr Builtin.Getset_descriptor
theorem args_getattr_3 (a b c : Value) : argsOk "getattr" ⟨[a, b, c], []⟩ := by unfold argsOk; kernel_rfl
section
variable {w : World} {h : Heap}
theorem dga_entry : entryFor table "collections.defaultdict.__getattribute__" = some Builtin.«object.__getattribute__» := entryFor_alias (id' := "object.__getattribute__") (by kernel_rfl) (by decide +kernel) (by decide +kernel) (by kernel_rfl)
theorem dga_kind : builtinKind "collections.defaultdict.__getattribute__" = some .slot := by decide +kernel
theorem dga_split : splitId "collections.defaultdict.__getattribute__" = some ("collections.defaultdict", "__getattribute__") := by decide +kernel
theorem dga_args (a b : Value) : argsOk "collections.defaultdict.__getattribute__" ⟨[a, b], []⟩ := by unfold argsOk; kernel_rfl
theorem dga_bind (self : Value) : bindSpecial (.builtin "collections.defaultdict.__getattribute__") self = pure (.builtin "collections.defaultdict.__getattribute__", [self]) :=
  (Slot.of (T := "collections.defaultdict") (name := "__getattribute__") (owner := "collections.defaultdict") (n := "__getattribute__") (by rw [typeLookup_type, builtinLookup_eq_fast]; kernel_rfl) (by decide +kernel) (by decide +kernel) (by decide +kernel)
    (.inl (by decide +kernel)) (by rw [isSubtype_type]; kernel_rfl)).bind self
theorem gq_len {n : String} (h : n.length ≤ 60) : (toString "'" ++ toString n ++ toString "' object has no attribute '").length ≤ 90 := by
  show ("'" ++ n ++ "' object has no attribute '").length ≤ 90
  rw [String.length_append, String.length_append]
  have e1 : "'".length = 1 := by decide
  have e2 : "' object has no attribute '".length = 27 := by decide
  omega
theorem gq_find (X : (hd.heap_1 w.params).In h) {b : Addr} {ob : Obj} (I : InstAt h b ob 108 (some emptyDict)) : Looks (model Challenge.rw_mq0106_01.row.prog w) h (find (.ref b) (.ref 108) "_frozen") .missing := by
  revert X; k_fill; intro X
  exact looks_find X I (by kernel_rfl)
theorem gq_ga (X : (hd.heap_1 w.params).In h) : Looks (model Challenge.rw_mq0106_01.row.prog w) h (typeLookup (.ref 108) "__getattribute__") (some (.builtin "collections.defaultdict.__getattribute__")) := by
  revert X; k_fill; intro X
  exact looks_findIn X (by kernel_rfl)
theorem gq_hook (X : (hd.heap_1 w.params).In h) : Looks (model Challenge.rw_mq0106_01.row.prog w) h (typeLookup (.ref 108) "__getattr__") none := by
  revert X; k_fill; intro X
  exact looks_findIn X (by kernel_rfl)
theorem gq_module (X : (hd.heap_1 w.params).In h) : Looks (model Challenge.rw_mq0106_01.row.prog w) h (isSubtype (.ref 108) (.type "module")) false := by
  revert X; k_fill; intro X
  exact looks_mroIn X (by kernel_rfl)
theorem gq_name (X : (hd.heap_1 w.params).In h) {b : Addr} {ob : Obj} (I : InstAt h b ob 108 (some emptyDict)) : ∃ n : String, n.length ≤ 60 ∧ Looks (model Challenge.rw_mq0106_01.row.prog w) h (typeNameCut 100 (.ref 108)) n := by
  revert X; k_fill; intro X
  exact ⟨"FreezableDefaultDict", by decide, Looks.of_peek X (by kernel_rfl)⟩
end
section
variable {w : World} {A : Around} {E : Value → Shared → Prop} {h : Heap} {g : Array GenState} {d : Drawn} {t : Nat} {os : OsState}
theorem gq_every {b : Addr} {ob : Obj} {tk : Tok} {Q : Value → Shared → Prop} (X : (hd.heap_1 w.params).In h) (I : InstAt h b ob 108 (some emptyDict)) (hh : A.handled = none)
    (hE : ∀ h' tk' e, Heap.NewAttrErr h h' e (.ref b) "_frozen" → E (.ref e) ⟨h', g, d, tk', os⟩) :
    wpAny (model Challenge.rw_mq0106_01.row.prog w) A (getAttrBy (.ref b) (.str "_frozen" tk) false) Q E ⟨h, g, d, t, os⟩ := by
  have L0 := I.type (M := model Challenge.rw_mq0106_01.row.prog w)
  have L1 := gq_ga X
  have L2 := gq_find X I
  have L3 := gq_hook X
  obtain ⟨n, hn, L4⟩ := gq_name X I
  unfold getAttrBy
  refine wpAny_holding (wpAny_bind (L0.at (wpAny_bind (L1.at ?_))))
  show wpAny _ _ (getAttrByItsOwn (.ref b) (.str "_frozen" tk) (.ref 108) (.builtin "collections.defaultdict.__getattribute__") false false) _ _ _
  unfold getAttrByItsOwn hookBefore callGetattribute boundAndCalled
  rw [if_pos (show onTheHeap (.ref 108) = true from rfl)]
  refine wpAny_bind (L3.at ?_)
  refine wpAny_bind (wpAny_attempt (wpAny_holding ?_))
  show wpAny _ _ (bindSpecial (.builtin "collections.defaultdict.__getattribute__") (.ref b) >>= _) _ _ _
  refine wpAny_bind (wpAny_of_eq (dga_bind _) ?_)
  have F1 : Looks (model Challenge.rw_mq0106_01.row.prog w) h (isInstance (.ref b) (.type "collections.defaultdict")) true := L0.andThen (fd_subd X)
  refine wpAny_call (codeAny_call_builtin_code (Code.quiet_builtin _ (by decide +kernel)) ?_)
  refine @check_slot (model Challenge.rw_mq0106_01.row.prog w) _ _ _ "collections.defaultdict.__getattribute__" "collections.defaultdict" "__getattribute__" (.ref b) [.str "_frozen" tk] [] _ dga_kind dga_split F1 (dga_args _ _) ?_
  refine codeAny_builtin dga_entry ?_
  unfold Builtin.«object.__getattribute__»
  show wpAny _ _ (pure ((.ref b, [.str "_frozen" tk]) : Value × List Value) >>= _) _ _ _
  refine wpAny_bind (wpAny_pure (wpAny_bind (wpAny_pure (wpAny_bind (L0.at (wpAny_bind (L2.at ?_)))))))
  dsimp only
  rw [if_neg (by decide), if_neg (by decide)]
  unfold noSuchAttribute typeNameOfCut
  have L5 : Looks (model Challenge.rw_mq0106_01.row.prog w) h (shownTypeOf (.ref b)) (.ref 108) := by
    unfold shownTypeOf
    refine L0.andThen ?_
    dsimp only
    rw [if_neg (by decide)]
    exact .now
  refine wpAny_bind (wpAny_bind (L5.at (L4.at ?_)))
  refine wpAny_raiseAttrError hh (fun h' tk' e x => ?_) (attrMsg_fits (gq_len hn) (by rw [sizeLine_eq]; decide))
  show wpAny _ _ (getattributeRaised _ _ _ _ _ _ _) _ _ _
  obtain ⟨t', u', he⟩ := x.there
  have M0 : Looks (model Challenge.rw_mq0106_01.row.prog w) h' (isInstance (.ref e) (.type "AttributeError")) true := ((Looks.ld he).andThen .now).andThen (Looks.of_pure sub_AttributeError)
  unfold getattributeRaised
  refine wpAny_bind (M0.at ?_)
  rw [if_pos rfl]
  have M1 : hookBehind (.ref 108) none = pure none := rfl
  rw [M1]
  refine wpAny_bind (wpAny_pure ?_)
  unfold hookOrError attributeErrorLeaves
  dsimp only
  rw [if_pos (by decide)]
  exact wpAny_throw (hE h' tk' e x)
theorem gq_ask {b : Addr} {ob : Obj} {tk : Tok} {Q : Option Value → Shared → Prop} (X : (hd.heap_1 w.params).In h) (I : InstAt h b ob 108 (some emptyDict)) (hh : A.handled = none)
    (hQ : ∀ h' tk', (∀ a o, h.get? a = some o → h'.get? a = some o) → Q none ⟨h', g, d, tk', os⟩) :
    wpAny (model Challenge.rw_mq0106_01.row.prog w) A (getAttrBy? (.ref b) (.str "_frozen" tk)) Q E ⟨h, g, d, t, os⟩ := by
  unfold getAttrBy?
  refine wpAny_bind (wpAny_attempt (gq_every X I hh fun h' tk' e x => ?_))
  obtain ⟨t', u', he⟩ := x.there
  have M0 : Looks (model Challenge.rw_mq0106_01.row.prog w) h' (isInstance (.ref e) (.type "AttributeError")) true := ((Looks.ld he).andThen .now).andThen (Looks.of_pure sub_AttributeError)
  dsimp only
  refine wpAny_bind (M0.at ?_)
  rw [if_pos rfl]
  exact wpAny_pure (hQ h' tk' x.keeps)
theorem gq_miss {b : Addr} {ob : Obj} {tk : Tok} {dflt : Value} {Q : Value → Shared → Prop} (X : (hd.heap_1 w.params).In h) (I : InstAt h b ob 108 (some emptyDict)) (hh : A.handled = none)
    (hQ : ∀ h' tk', (∀ a o, h.get? a = some o → h'.get? a = some o) → Q dflt ⟨h', g, d, tk', os⟩) :
    wpAny (model Challenge.rw_mq0106_01.row.prog w) A (call (.builtin "getattr") [.ref b, .str "_frozen" tk, dflt]) Q E ⟨h, g, d, t, os⟩ := by
  have L0 := I.type (M := model Challenge.rw_mq0106_01.row.prog w)
  have L1 : Looks (model Challenge.rw_mq0106_01.row.prog w) h (isInstance (.ref b) (.type "module")) false := L0.andThen (gq_module X)
  refine Calls.call_function_entry KB.kind_getattr KB.plain_getattr KB.entry_getattr (args_getattr_3 _ _ _) ?_
  unfold Builtin.«getattr»
  refine wpAny_bind (wpAny_of_eq (a := [.ref b, .str "_frozen" tk, dflt]) (by first | rfl | kernel_rfl) ?_)
  dsimp only
  refine wpAny_bind (wpAny_of_eq (a := ()) (by first | rfl | kernel_rfl) ?_)
  repeat (first | (with_reducible refine wpAny_bind (gq_ask X I hh (fun h2 tk2 k2 => ?_))) | simp only [Bool.not_false, if_true] | lk)
  exact ⟨_, rfl, hQ _ _ k2⟩
theorem gq_everyH {b f2 : Addr} {ob od : Obj} {tk : Tok} {Q : Value → Shared → Prop} (X : (hd.heap_1 w.params).In h) (I : InstAt h b ob 108 (some od)) (L2 : Looks (model Challenge.rw_mq0106_01.row.prog w) h (find (.ref b) (.ref 108) "_frozen") (.value (.ref f2)))
    (hQ : Q (.ref f2) ⟨h, g, d, t, os⟩) :
    wpAny (model Challenge.rw_mq0106_01.row.prog w) A (getAttrBy (.ref b) (.str "_frozen" tk) false) Q E ⟨h, g, d, t, os⟩ := by
  have L0 := I.type (M := model Challenge.rw_mq0106_01.row.prog w)
  have L1 := gq_ga X
  have L3 := gq_hook X
  unfold getAttrBy
  refine wpAny_holding (wpAny_bind (L0.at (wpAny_bind (L1.at ?_))))
  show wpAny _ _ (getAttrByItsOwn (.ref b) (.str "_frozen" tk) (.ref 108) (.builtin "collections.defaultdict.__getattribute__") false false) _ _ _
  unfold getAttrByItsOwn hookBefore callGetattribute boundAndCalled
  rw [if_pos (show onTheHeap (.ref 108) = true from rfl)]
  refine wpAny_bind (L3.at ?_)
  refine wpAny_bind (wpAny_attempt (wpAny_holding ?_))
  show wpAny _ _ (bindSpecial (.builtin "collections.defaultdict.__getattribute__") (.ref b) >>= _) _ _ _
  refine wpAny_bind (wpAny_of_eq (dga_bind _) ?_)
  have F1 : Looks (model Challenge.rw_mq0106_01.row.prog w) h (isInstance (.ref b) (.type "collections.defaultdict")) true := L0.andThen (fd_subd X)
  refine wpAny_call (codeAny_call_builtin_code (Code.quiet_builtin _ (by decide +kernel)) ?_)
  refine @check_slot (model Challenge.rw_mq0106_01.row.prog w) _ _ _ "collections.defaultdict.__getattribute__" "collections.defaultdict" "__getattribute__" (.ref b) [.str "_frozen" tk] [] _ dga_kind dga_split F1 (dga_args _ _) ?_
  refine codeAny_builtin dga_entry ?_
  unfold Builtin.«object.__getattribute__»
  show wpAny _ _ (pure ((.ref b, [.str "_frozen" tk]) : Value × List Value) >>= _) _ _ _
  refine wpAny_bind (wpAny_pure (wpAny_bind (wpAny_pure (wpAny_bind (L0.at (wpAny_bind (L2.at ?_)))))))
  exact wpAny_pure (wpAny_pure hQ)
theorem gq_hit {b f2 : Addr} {ob od : Obj} {tk : Tok} {dflt : Value} {Q : Value → Shared → Prop} (X : (hd.heap_1 w.params).In h) (I : InstAt h b ob 108 (some od)) (L2 : Looks (model Challenge.rw_mq0106_01.row.prog w) h (find (.ref b) (.ref 108) "_frozen") (.value (.ref f2)))
    (hQ : Q (.ref f2) ⟨h, g, d, t, os⟩) :
    wpAny (model Challenge.rw_mq0106_01.row.prog w) A (call (.builtin "getattr") [.ref b, .str "_frozen" tk, dflt]) Q E ⟨h, g, d, t, os⟩ := by
  have L0 := I.type (M := model Challenge.rw_mq0106_01.row.prog w)
  have L1 : Looks (model Challenge.rw_mq0106_01.row.prog w) h (isInstance (.ref b) (.type "module")) false := L0.andThen (gq_module X)
  refine Calls.call_function_entry KB.kind_getattr KB.plain_getattr KB.entry_getattr (args_getattr_3 _ _ _) ?_
  unfold Builtin.«getattr»
  refine wpAny_bind (wpAny_of_eq (a := [.ref b, .str "_frozen" tk, dflt]) (by first | rfl | kernel_rfl) ?_)
  dsimp only
  refine wpAny_bind (wpAny_of_eq (a := ()) (by first | rfl | kernel_rfl) ?_)
  have ask : ∀ {A : Around} {E : Value → Shared → Prop} {Q : Option Value → Shared → Prop}, Q (some (.ref f2)) ⟨h, g, d, t, os⟩ → wpAny (model Challenge.rw_mq0106_01.row.prog w) A (getAttrBy? (.ref b) (.str "_frozen" tk)) Q E ⟨h, g, d, t, os⟩ := fun q => by
    unfold getAttrBy?
    exact wpAny_bind (wpAny_attempt (gq_everyH X I L2 (wpAny_pure q)))
  repeat (first | (with_reducible refine wpAny_bind (ask ?_)) | simp only [Bool.not_false, if_true] | lk)
  exact ⟨_, rfl, hQ⟩
end
end
theorem off_D6 : True := by
  w_top off
  k_with_none
  trivial
-- D6
section
open PySem PySem.W PyProof.Rows PySem.Calls Builtin Builtin.ObjectAttr Builtin.Getset_descriptor
theorem dm_entry : entryFor table "collections.defaultdict.__missing__" = some Builtin.«collections.defaultdict.__missing__» := entryFor_of_tree (by kernel_rfl)
theorem sd_entry : entryFor table "dict.setdefault" = some Builtin.«dict.setdefault» := entryFor_of_tree (by kernel_rfl)
section
variable {w : World} {A : Around} {R : Result → Shared → Prop} {h : Heap} {g : Array GenState} {d : Drawn} {t : Nat} {os : OsState}
/-- the book with one entry more -/
noncomputable abbrev grownDict (ob : Obj) (es : Array DictEntry) (ep : Nat) (e : DictEntry) : Obj := { ob with data := .dict (es.push e) (ep + 1) }
theorem sd_new {b : Addr} {ob : Obj} {es : Array DictEntry} {ep : Nat} {x : Str} {tx : Tok} {v : Value} (X : (hd.heap_1 w.params).In h) (hb : h.get? b = some ob) (hc : ob.cls = .ref 108) (hd : ob.data = .dict es ep)
    (hk : KeysOf (SK w) es) (hv : findBy (SK w).is es x = none) (hs : (b == sysModules) = false) (hz : es.size ≤ 1000)
    (hq : ∀ h', h'.get? b = some (grownDict ob es ep ⟨(SK w).hash x, .str x tx, v⟩) → (∀ a, a ≠ b → h'.get? a = h.get? a) → h'.objs.size = h.objs.size → R (.ok (.ret v)) ⟨h', g, d, t + 1, os⟩) :
    codeAny (model Challenge.rw_mq0106_01.row.prog w) A (.builtin "dict.setdefault" ⟨[.ref b, .str x tx, v], []⟩) R ⟨h, g, d, t, os⟩ := by
  have F0 : Looks (model Challenge.rw_mq0106_01.row.prog w) h (typeOf (.ref b)) (.ref 108) := by
    have := (Looks.ld (M := model Challenge.rw_mq0106_01.row.prog w) (part := some headPart) hb).andThen (f := fun o => pure o.cls) .now
    rw [hc] at this; exact this
  have F1 := fd_subo X
  refine codeAny_builtin sd_entry ?_
  unfold Builtin.«dict.setdefault» Builtin.Dict.keyAndDefault Builtin.Dict.notOrdered Builtin.Dict.nameIsSure isInstance
  dsimp only [List.headD]
  rw [if_pos (by decide +kernel)]
  refine wpAny_bind (wpAny_bind (wpAny_bind (F0.at ?_)))
  rw [if_pos (by decide)]
  refine wpAny_bind (wpAny_bind (F0.at (F1.at ?_)))
  rw [if_neg (by decide)]
  refine wpAny_pure ?_
  rw [if_neg (by decide)]
  refine wpAny_bind (wpAny_pure (wpAny_bind (wpAny_of_eq (a := (.ref b, [.str x tx, v])) (by first | rfl | kernel_rfl) ?_)))
  refine wpAny_bind (wpAny_pure (wpAny_pure ?_))
  dsimp only
  rw [if_neg (by rw [hs]; decide)]
  refine wpAny_bind ?_
  unfold dictSetDefault
  refine wpAny_holding (wpAny_bind ((SK w).pyHash sk_key (wpAny_bind (wpAny_dictFind_of (knd := SK w) (s := ⟨h, g, d, t + 1, os⟩) sk_key hb hd hk ?_))))
  have hn : (es.findIdx? fun e => (SK w).is x e.key) = none := by
    rw [findBy_of_findIdx?] at hv
    cases hi : es.findIdx? fun e => (SK w).is x e.key with
    | none => rfl
    | some i =>
      rw [hi] at hv
      obtain ⟨hlt, _⟩ := Array.findIdx?_eq_some_iff_getElem.mp hi
      simp [hlt] at hv
  rw [hn]
  refine wpAny_bind (wpAny_rule (wpAny_bind (wpAny_updateDictKeys (f := (·.push ⟨(SK w).hash x, .str x tx, v⟩)) (s := ⟨h, g, d, t + 1, os⟩) hb hd ?_ (by rw [sizeLine_eq]; omega) (by simp))))
  refine wpAny_pure (wpAny_pure (hq _ ?_ (fun a n => Heap.get?_update_other _ _ (Ne.symm n)) (Heap.size_after_update _ _ _)))
  have hu := Heap.get?_update_self (Obj.mapDictKeys (·.push ⟨(SK w).hash x, .str x tx, v⟩)) hb (Obj.isFreed_of_dict (Obj.data_mapDictKeys hd _))
  refine hu.trans ?_
  obtain ⟨c, dd, dt, sl⟩ := ob
  obtain rfl : dt = .dict es ep := hd
  rfl
end
end
theorem off_D7 : True := by
  w_top off
  k_with_none
  trivial
-- D7
section
open PySem PySem.W PyProof.Rows PySem.Calls
section
variable {w : World} {A : Around} {s : Shared} {hb : Heap} {loose : List Str} {mean : ExcName → Option Value} {mg mb : Str → Option Value} {prog : Program} {K : Frag} {p : Program}
  {R : Result → Shared → Prop} {name qual : Str} {params : Arguments} {body : Expr} {scope : Scope} {cl : List (Str × Addr)} {pm ctv : Value} {c' f : Addr} {args : Args} {binds : List (Str × Value)}
/-- enter, for a lambda -/
theorem enterL (X : K.In hb) (T : Top p loose mean mg mb hb) (S : hb.StaysIn s.heap) (D : List (Addr × Obj)) (hD : ∀ q ∈ D, s.heap.get? q.1 = some q.2 ∧ hb.get? q.1 = none)
    (ho : s.heap.get? f = some (kla_obj name qual params body scope cl pm c' ctv)) (hcd : s.heap.CodeRec (.ref c') qual) (hroom : A.depth < recursionLimit)
    (hbind : bindArgs (kla_fn name qual params body scope cl pm (.ref c') ctv) args = pure binds) (hloc : ∀ y ∈ binds, scope.names.lookup y.1 = some .local)
    (h : ∀ g L h₁, Fr g L h₁ (fun y => binds.reverse.lookup y) → News g L h₁ D → K.In g → Top p loose mean mg mb g → hb.StaysIn g →
      (∀ a o, a ∉ D.map (·.1) → s.heap.get? a = some o → g.get? a = some o) → s.heap.objs.size = L → (∀ q ∈ D, q.1 < L) →
      wpAny (model prog w) (A.deeper (envX qual scope L f (.ref c') cl)) (eval body (envX qual scope L f (.ref c') cl))
        (fun v s' => R (.ok (.ret v)) s')
        (fun e s' => wpAny (model prog w) (A.deeper (envX qual scope L f (.ref c') cl)) (leaving (envX qual scope L f (.ref c') cl) e) (fun _ s'' => R (.error e) s'') (fun e' s'' => R (.error e') s'') s')
        { s with heap := h₁, toks := s.toks + binds.length })
    (hcell : ∀ x ∈ scope.names, x.2 ≠ .cell) (hco : scope.isCoroutine = false := by rfl) (hgen : scope.isGenerator = false := by rfl) (hk : scope.kind = .function := by rfl) : codeAny (model prog w) A (.call (.ref f) args) R s := by
  refine kla_callFunE hroom ho rfl hco hgen rfl hcd ?_
  rw [hbind]
  refine wpAny_pure (wpAny_newFunctionEnv hcell hloc (fun h₁ hns hsb => ⟨(T.nolimit.keeps S).fresh _ hsb, ?_⟩) hk)
  show codeAny _ _ (.expr body (envX qual scope s.heap.objs.size f (.ref c') cl)) _ _
  have hk₁ : ∀ b o, s.heap.get? b = some o → h₁.get? b = some o := fun b o e => hsb.extBut b o (Nat.ne_of_lt (Heap.lt_size e)) (Heap.get?_push_of_some _ e)
  have nm : ∀ b o, hb.get? b = some o → b ∉ D.map (·.1) := fun b o e q => by
    obtain ⟨q', hq, rfl⟩ := List.mem_map.mp q
    rw [(hD _ hq).2] at e; cases e
  have st : hb.StaysIn (hideAll s.heap (D.map (·.1))) := fun b o e => hideAll_get _ (S b o e) (nm b o e)
  exact kla_codeExpr (h (hideAll s.heap (D.map (·.1))) s.heap.objs.size h₁ ⟨hns, fun b o e => hk₁ b o (of_hideAll _ e), Nat.le_of_eq (hideAll_size _ _)⟩ (fun q hq => ⟨hk₁ _ _ (hD q hq).1, Nat.ne_of_lt (Heap.lt_size (hD q hq).1), hideAll_none _ (List.mem_map_of_mem hq)⟩)
    (Frag.In.keeps (h' := hideAll s.heap (D.map (·.1))) X fun b o e => st b o e) (Top.keeps (h' := hideAll s.heap (D.map (·.1))) T fun b o e => st b o e) st (fun a o n e => hideAll_get _ e n) rfl (fun q hq => Heap.lt_size (hD q hq).1))
end
noncomputable abbrev lamParams : Arguments := { posonlyargs := [], args := [], vararg := none, kwonlyargs := [], kw_defaults := [], kwarg := none, defaults := [] }
noncomputable abbrev lamScope : Scope := { kind := .function, names := [(Str.ofString "notes", .free), (Str.ofString "_law_noted", .globalImplicit)], isGenerator := false, isCoroutine := false }
noncomputable abbrev lamBody (p q r : Pos) : Expr := .Call (.Name (Str.ofString "_law_noted") p) [.Name (Str.ofString "notes") q] [] r
/-- a factory that notes its runs in n -/
inductive LamAt (h : Heap) (lam n : Addr) : Prop
  | mk (nm qual : Str) (p q r : Pos) (c : Addr) (pm : Value) (c' : Addr) (ctv : Value) (o : Obj) (_ : h.get? lam = some (kla_obj nm qual lamParams (lamBody p q r) lamScope [(Str.ofString "notes", c)] pm c' ctv)) (_ : h.CodeRec (.ref c') qual) (_ : h.get? c = some o) (_ : o.data = .cell (some (.ref n)))
theorem LamAt.keeps {h h' : Heap} {lam n : Addr} (x : LamAt h lam n) (k : ∀ a o, h.get? a = some o → (∀ es ep, o.data ≠ .dict es ep) → (∀ xs e, o.data ≠ .seq xs e) → h'.get? a = some o) : LamAt h' lam n := by
  obtain ⟨nm, qual, p, q, r, c, pm, c', ctv, o, h1, ⟨c₂, oc, vs, t, e2, hoc, hd, hv⟩, h3, h4⟩ := x
  refine ⟨nm, qual, p, q, r, c, pm, c', ctv, o, k _ _ h1 (fun _ _ q => by cases q) (fun _ _ q => by cases q), ⟨c₂, oc, vs, t, e2, k _ _ hoc (fun _ _ q => by rw [hd] at q; cases q) (fun _ _ q => by rw [hd] at q; cases q), hd, hv⟩, k _ _ h3 (fun _ _ q => by rw [h4] at q; cases q) (fun _ _ q => by rw [h4] at q; cases q), h4⟩
section
variable {M : Model} {A : Around} {E : Value → Shared → Prop} {s : Shared} {h₀ : Heap} {L c : Addr} {m : Str → Option Value} {Q : Value → Shared → Prop} {env : Env} {x : Str} {pos : Pos} {v : Value} {o : Obj}
theorem nm_free (F : Fr h₀ L s.heap m) (hc : env.cells.lookup x = some c) (ho : h₀.get? c = some o) (hd : o.data = .cell (some v)) (h : Q v s) (hk : env.scope.kind = .function := by rfl) (hx : env.kindOf x = some .free := by rfl) (hb : (x == ("__debug__" : Str)) = false := by decide) (hn : (x == ("__classdict__" : Str)) = false := by decide) :
    wpAny M A (eval (.Name x pos) env) Q E s := wpAny_Name (wpAny_loadName_free hk hx hc ⟨o, F.keep _ _ ho, hd⟩ h hn) hb
end
section
variable {w : World} {A : Around} {s : Shared} {hb : Heap} {loose : List Str} {mean : ExcName → Option Value} {mg mb : Str → Option Value} {R : Result → Shared → Prop}
theorem kw_D7_1 : True := by
  k_with_none
  k_with "eval Name" => (k_here; k_dflt (refine' nm_free ?z_F ?z_c ?z_o ?z_d ?_ ?z_a ?z_b; (case z_a => rfl); (case z_b => rfl); (case z_F => k_asm); (case z_c => rfl); (case z_o => assumption); (case z_d => assumption); k_whole))
  k_with "mytree" => ((first | (with_reducible show wpAny _ _ _ _ _ _) | (with_reducible show ite _ _ _)); (fail_if_success (with_reducible show wpAny _ _ (PySem.call (Value.ref 220) _) _ _ _)))
  k_with "mygo" => (repeat' (first | (k_unfold; (try dsimp only)) | (walk_at "mytree"; walk1) | (dsimp only; walk_at "mytree"; walk1) | fail "no step"))
  trivial
theorem lam_spec (X : (hd.heap_1 w.params).In hb) (T : Top topProg loose mean mg mb hb) (S : hb.StaysIn s.heap) (hroom : A.depth < 930) {lam n : Addr} {xs : Array Value} {c : Nat} (hlam : LamAt s.heap lam n)
    (hn : s.heap.get? n = some (listOf xs c)) (hb0 : hb.get? n = none) (hsz : xs.size ≤ 1000)
    (k : ∀ h' tk a t, Kp [n] s.heap h' → h'.get? n = some (listOf (xs.push (.int xs.size t)) (c + 1)) → s.heap.get? a = none → h'.get? a = some (listOf #[] 0) → R (.ok (.ret (.ref a))) { s with heap := h', toks := tk }) :
    codeAny (model Challenge.rw_mq0106_01.row.prog w) A (.call (.ref lam) ⟨[], []⟩) R s := by
  obtain ⟨nm, qual, p, q, r, c₁, pm, c', ctv, o, h1, h2, h3, h4⟩ := hlam
  revert X; k_fill; intro X
  refine' enterL (binds := []) X T S [(n, listOf xs c)] (by intro q hq; rw [List.mem_singleton.mp hq]; exact ⟨hn, hb0⟩) h1 h2 ?k8 ?k9 ?kB ?_ ?c2 ?c3 ?c4 ?c5
  case k8 => k_room
  case k9 => exact rfl
  case kB => exact fun y hy => nomatch hy
  case c2 => decide
  case c3 => exact rfl
  case c4 => exact rfl
  case c5 => exact rfl
  intro g' L' h' F' N' X' T' S' hg' hL' hl'
  have hc := hg' _ _ (by intro z; rw [List.mem_singleton.mp z, hn] at h3; cases h3; cases h4) h3
  (try dsimp only)
  show wpAny _ _ _ _ _ _
  k_fold
  clear X T S
  walk_at "mygo"
  refine ⟨X'.keeps F'.keep, wpAny_call ?_⟩
  refine noted_spec (hb := g') X' T' (by exact F'.keep) (by k_room) (by exact News.get N' (.head _)) (N' _ (.head _)).2.2 hsz fun h2 tk a t kp hn2 fr ha => ?_
  have up : Kp [n] s.heap h' := kp_of F' hg'
  refine k h2 tk a t (up.trans kp) hn2 ?_ ha
  cases z : s.heap.get? a with
  | none => rfl
  | some o' =>
    by_cases e : a = n
    · rw [e, News.get N' (.head _)] at fr; cases fr
    · rw [up a o' (by simpa using e) z] at fr; cases fr
end
end
theorem off_D8 : True := by
  w_top off
  k_with_none
  trivial
-- D8
section
open PySem PySem.W PyProof.Rows PySem.Calls Builtin Builtin.ObjectAttr Builtin.Getset_descriptor
theorem callBorrowed_eq (f : Value) (pos : List Value) : callBorrowed f pos = (call f pos []).keep [borrowed] := by
  show PySem.Sem.call _ _ _ _ _ = PySem.Sem.call _ _ _ _ _
  congr 1
  funext r
  rcases r with e | (v | _ | _ | _) <;> rfl
theorem aub_depth {A : Around} {i : String} {a : Args} (h : (Code.builtin i a).weight = 0 := by rfl) : (A.under (.builtin i a)).depth = A.depth := by unfold Around.under; simp [h]
theorem aub_handled {A : Around} {i : String} {a : Args} : (A.under (.builtin i a)).handled = A.handled := by first | rfl | (unfold Around.under; simp)
theorem aub_frames {A : Around} {i : String} {a : Args} : (A.under (.builtin i a)).frames = A.frames := by first | rfl | (unfold Around.under; simp)
noncomputable abbrev bookObj (dx lam : Addr) (es : Array DictEntry) (ep : Nat) : Obj := { cls := .ref 108, dict := some dx, data := .dict es ep, slots := #[some (.ref lam)] }
section
variable {w : World} {A : Around} {R : Result → Shared → Prop} {s : Shared} {hb : Heap} {loose : List Str} {mean : ExcName → Option Value} {mg mb : Str → Option Value}
theorem factory_at {M : Model} {E : Value → Shared → Prop} {b dx lam : Addr} {es : Array DictEntry} {ep : Nat} {Q : Option Value → Shared → Prop} (hb : s.heap.get? b = some (bookObj dx lam es ep)) (hq : Q (some (.ref lam)) s) : wpAny M A (Builtin.Collections_defaultdict.factory? (.ref b)) Q E s := by
  unfold Builtin.Collections_defaultdict.factory?
  refine wpAny_bind (wpAny_bind (wpAny_loadPart hb (wpAny_pure ?_)))
  exact wpAny_pure hq
theorem dm_run (X : (hd.heap_1 w.params).In hb) (T : Top topProg loose mean mg mb hb) (S : hb.StaysIn s.heap) (hroom : A.depth < 920) {b dx lam n : Addr} {es : Array DictEntry} {ep : Nat} {x : Str} {tx : Tok} {xs : Array Value} {c : Nat}
    (hbo : s.heap.get? b = some (bookObj dx lam es ep)) (hbb : hb.get? b = none) (hk : KeysOf (SK w) es) (hv : findBy (SK w).is es x = none) (hs : (b == sysModules) = false) (hz : es.size ≤ 1000)
    (hlam : LamAt s.heap lam n) (hn : s.heap.get? n = some (listOf xs c)) (hb0 : hb.get? n = none) (hsz : xs.size ≤ 1000)
    (k : ∀ h' tk a t, Kp [b, n] s.heap h' → h'.get? n = some (listOf (xs.push (.int xs.size t)) (c + 1)) → s.heap.get? a = none → h'.get? a = some (listOf #[] 0) →
      h'.get? b = some (bookObj dx lam (es.push ⟨(SK w).hash x, .str x tx, .ref a⟩) (ep + 1)) → R (.ok (.ret (.ref a))) { s with heap := h', toks := tk }) :
    codeAny (model Challenge.rw_mq0106_01.row.prog w) A (.builtin "collections.defaultdict.__missing__" ⟨[.ref b, .str x tx], []⟩) R s := by
  refine codeAny_builtin dm_entry ?_
  unfold Builtin.«collections.defaultdict.__missing__»
  refine wpAny_bind (wpAny_of_eq (a := (Value.ref b, Value.str x tx)) (by first | rfl | kernel_rfl) ?_)
  dsimp only
  refine wpAny_bind (factory_at hbo ?_)
  dsimp only
  have hlf : ∃ fd sl d cc, s.heap.get? lam = some ⟨cc, d, .func fd, sl⟩ := by
    obtain ⟨nm, qual, p, q, r, c₁, pm, c', ctv, o, h1, _⟩ := hlam
    exact ⟨_, _, _, _, h1⟩
  obtain ⟨fd, sl, d, cc, hl⟩ := hlf
  unfold callOutOfASlot borrowsExactly
  refine wpAny_bind (wpAny_bind (wpAny_bind (wpAny_load hl ?_)))
  dsimp only
  refine wpAny_pure ?_
  rw [if_pos rfl, callBorrowed_eq]
  refine Calls.wpAny_keep (wpAny_call ?_)
  refine lam_spec (hb := hb) X T S (by rw [aub_depth]; omega) hlam hn hb0 hsz fun h2 tk a t kp hn2 fr ha => ?_
  dsimp only
  have hnb : b ≠ n := fun e => by rw [e, hn] at hbo; cases hbo
  have hb2 := kp b _ (by simpa using hnb) hbo
  have X2 : (hd.heap_1 w.params).In h2 := X.keeps (kp.stays S (by simpa using hb0))
  refine wpAny_pure ⟨Code.quiet_builtin _ (by decide +kernel), ?_⟩
  refine sd_new (h := h2) X2 hb2 rfl rfl hk hv hs hz fun h3 e1 e2 e3 => ?_
  refine k h3 _ a t ?_ ?_ fr ?_ e1
  · intro p o hp e
    simp only [List.mem_cons, List.not_mem_nil, or_false, not_or] at hp
    rw [e2 p hp.1]
    exact kp p o (by simpa using hp.2) e
  · rw [e2 n (Ne.symm hnb)]; exact hn2
  · rw [e2 a (fun e => by rw [e, hbo] at fr; cases fr)]; exact ha
end
end
theorem off_D9 : True := by
  w_top off
  k_with_none
  trivial
-- D9
section
open PySem PySem.W PyProof.Rows PySem.Calls Builtin Builtin.ObjectAttr Builtin.Getset_descriptor
noncomputable def bmArgs (b : Addr) (x : Str) (tx : Tok) : Sem Unit := match Manifest.signature? "collections.defaultdict.__missing__" with
  | some sig => Bind.checkArgs "collections.defaultdict.__missing__" { sig with full := s!"{(Str.ofString "FreezableDefaultDict").toString}.{Bind.lastOf "collections.defaultdict.__missing__"}" } ⟨[.ref b, .str x tx], []⟩
  | none => unsupported ""
theorem bm_args (b : Addr) (x : Str) (tx : Tok) : bmArgs b x tx = pure () := by kernel_rfl
theorem bm_kind : builtinKind "collections.defaultdict.__missing__" = some .method := by decide +kernel
theorem bm_var : Manifest.varargsMethods.contains "collections.defaultdict.__missing__" = false := by decide +kernel
section
variable {w : World} {A : Around} {E : Value → Shared → Prop} {R : Result → Shared → Prop} {s : Shared}
theorem bm_module {h : Heap} (X : (hd.heap_1 w.params).In h) : Looks (model Challenge.rw_mq0106_01.row.prog w) h (isSubtype (.ref 108) (.type "module")) false := gq_module X
theorem bm_istype {h : Heap} (X : (hd.heap_1 w.params).In h) : Looks (model Challenge.rw_mq0106_01.row.prog w) h (isSubtype (.ref 108) (.type "type")) false := by
  revert X; k_fill; intro X
  exact looks_mroIn X (by kernel_rfl)
theorem bm_data {h : Heap} (X : (hd.heap_1 w.params).In h) : ∃ cd : ClassData, cd.qualname = Str.ofString "FreezableDefaultDict" ∧ Looks (model Challenge.rw_mq0106_01.row.prog w) h (classData 108) cd := by
  revert X; k_fill; intro X
  have e : (clsIn (hd.heap_1 w.params) 108).map (·.qualname) = some (Str.ofString "FreezableDefaultDict") := by kernel_rfl
  cases q : clsIn (hd.heap_1 w.params) 108 with
  | none => rw [q] at e; cases e
  | some cd => rw [q] at e; exact ⟨cd, Option.some.inj e, looks_clsIn X q⟩
theorem bm_ct {h : Heap} (X : (hd.heap_1 w.params).In h) : Looks (model Challenge.rw_mq0106_01.row.prog w) h (typeOf (.ref 108)) (.type "type") := by
  revert X; k_fill; intro X
  exact looks_typeIn X (by kernel_rfl)
theorem bm_check {b dx lam : Addr} {es : Array DictEntry} {ep : Nat} {x : Str} {tx : Tok} {Q : Unit → Shared → Prop} (X : (hd.heap_1 w.params).In s.heap) (hb : s.heap.get? b = some (bookObj dx lam es ep)) (hq : Q () s) :
    wpAny (model Challenge.rw_mq0106_01.row.prog w) A (checkBoundCall "collections.defaultdict.__missing__" ⟨[.ref b, .str x tx], []⟩) Q E s := by
  have F0 : Looks (model Challenge.rw_mq0106_01.row.prog w) s.heap (typeOf (.ref b)) (.ref 108) := (Looks.ld (part := some headPart) hb).andThen .now
  have F1 : Looks (model Challenge.rw_mq0106_01.row.prog w) s.heap (isInstance (.ref b) (.type "module")) false := F0.andThen (bm_module X)
  have F2 : Looks (model Challenge.rw_mq0106_01.row.prog w) s.heap (isType (.ref b)) false := by
    unfold isType
    exact (Looks.ld hb).andThen .now
  obtain ⟨cd, hcd, F3⟩ := bm_data X
  have F4 := bm_ct X
  have ha := bm_args b x tx
  unfold bmArgs at ha
  unfold checkBoundCall
  cases hsig : Manifest.signature? "collections.defaultdict.__missing__" with
  | none => rw [hsig] at ha; cases ha
  | some sig =>
    rw [hsig] at ha
    dsimp only at ha ⊢
    rw [bm_kind]
    dsimp only
    rw [if_neg (by decide)]
    refine wpAny_bind (F1.here ?_)
    rw [if_neg (by rw [bm_var]; decide)]
    refine wpAny_bind (F2.here ?_)
    rw [if_neg (by decide)]
    refine wpAny_bind (F0.here ?_)
    dsimp only
    refine wpAny_bind (F3.here ?_)
    rw [hcd]
    refine wpAny_bind (F4.here ?_)
    rw [if_pos (by decide)]
    rw [ha]
    exact wpAny_pure hq
end
end
theorem off_DA : True := by
  w_top off
  k_with_none
  trivial
-- DA
section
open PySem PySem.W PyProof.Rows PySem.Calls Builtin Builtin.ObjectAttr Builtin.Getset_descriptor
section
variable {w : World} {A : Around} {E : Value → Shared → Prop} {R : Result → Shared → Prop} {s : Shared}
theorem bm_call {q b dx lam : Addr} {es : Array DictEntry} {ep : Nat} {x : Str} {tx : Tok} {Q : Value → Shared → Prop} (X : (hd.heap_1 w.params).In s.heap) (hq : s.heap.get? q = some (boundObj "collections.defaultdict.__missing__" b)) (hb : s.heap.get? b = some (bookObj dx lam es ep))
    (h : codeAny (model Challenge.rw_mq0106_01.row.prog w) A (.builtin "collections.defaultdict.__missing__" ⟨[.ref b, .str x tx], []⟩) (fun r s' => match r with | .ok (.ret v) => Q v s' | .ok _ => False | .error e => E e s') s) :
    wpAny (model Challenge.rw_mq0106_01.row.prog w) A (call (.ref q) [.str x tx]) Q E s := by
  refine wpAny_call (codeAny_of_tree ?_)
  show wpAny _ _ (callAny (.ref q) ⟨[.str x tx], []⟩) _ _ s
  simp only [callAny]
  refine wpAny_bind (wpAny_load hq ?_)
  simp only [show (Value.type "builtin_function_or_method" == Value.type "method" || Value.type "builtin_function_or_method" == Value.type "builtin_function_or_method" || Value.type "builtin_function_or_method" == Value.type "method-wrapper") = true by decide, if_true]
  refine KFB.if_so (by decide) ?_
  refine wpAny_bind (bm_check X hb ?_)
  refine wpAny_bind (wpAny_pure (wpAny_pure ?_))
  refine ⟨Code.quiet_builtin _ (by decide +kernel), ?_⟩
  exact h
theorem keeps_bm {M : Model} {q b : Addr} (h : Heap) (X : h.get? q = some (boundObj "collections.defaultdict.__missing__" b)) : ∃ k, (k = Keeper.frame ∨ k = Keeper.machine ∨ k = Keeper.boundFrame) ∧ Looks M h (keeperOf (.ref q)) k :=
  ⟨.machine, .inr (.inl rfl), (Looks.ld (part := none) X).andThen .now⟩
end
end
theorem off_DB : True := by
  w_top off
  k_with_none
  trivial
-- DB
section
open PySem PySem.W PyProof.Rows PySem.Calls
section
variable {M : Model} {A : Around} {E : Value → Shared → Prop} {s : Shared} {env : Env} {pos : Pos} {f : Value} {first : List Value} {Q : Value → Shared → Prop} {P : Heap → Prop}
theorem cw_any {e : Expr} {rest : List Expr} (hk : ∀ h, P h → ∃ k, (k = Keeper.frame ∨ k = Keeper.machine ∨ k = Keeper.boundFrame) ∧ Looks M h (keeperOf f) k)
    (h : wpAny M A (spliced (backTo pos (starEach (e :: rest) env))) (fun vs s₁ => P s₁.heap ∧ wpAny M A (call f (first ++ vs)) Q E s₁) E s)
    (he : starEach (e :: rest) env = (false, eval e env) :: starEach rest env := by rfl) (hplain : (backTo pos (starEach rest env)).any (·.1) = false := by rfl) :
    wpAny M A (callWith pos f first (backTo pos (starEach (e :: rest) env)) []) Q E s := by
  rw [he] at h ⊢
  exact callWith_of (by show ((false || (backTo pos (starEach rest env)).any (·.1)) || false) = false; rw [hplain]; rfl) hk (evalArgs_plain h)
theorem cw_any0 (hk : ∀ h, P h → ∃ k, (k = Keeper.frame ∨ k = Keeper.machine ∨ k = Keeper.boundFrame) ∧ Looks M h (keeperOf f) k) (hp : P s.heap)
    (h : wpAny M A (call f (first ++ [])) Q E s) : wpAny M A (callWith pos f first (backTo pos (starEach [] env)) []) Q E s :=
  callWith_of rfl hk (evalArgs_nil3 ⟨hp, h⟩)
end
section
variable {w : World} {A : Around} {s : Shared} {hb : Heap} {loose : List Str} {mean : ExcName → Option Value} {mg mb : Str → Option Value} {R : Result → Shared → Prop}
theorem missU (X : (hd.heap_1 w.params).In hb) (T : Top topProg loose mean mg mb hb) (S : hb.StaysIn s.heap) (hroom : A.depth < 900) (hh : A.handled = none) {b dx lam n : Addr} {es : Array DictEntry} {ep : Nat} {x : Str} {tx : Tok} {xs : Array Value} {c : Nat}
    (hbo : s.heap.get? b = some (bookObj dx lam es ep)) (hbb : hb.get? b = none) (hdx : s.heap.get? dx = some emptyDict) (hk : KeysOf (SK w) es) (hv : findBy (SK w).is es x = none) (hs : (b == sysModules) = false) (hz : es.size ≤ 1000)
    (hlam : LamAt s.heap lam n) (hn : s.heap.get? n = some (listOf xs c)) (hb0 : hb.get? n = none) (hsz : xs.size ≤ 1000)
    (k : ∀ h' tk a t, Kp [b, n] s.heap h' → h'.get? n = some (listOf (xs.push (.int xs.size t)) (c + 1)) → s.heap.get? a = none → h'.get? a = some (listOf #[] 0) →
      h'.get? b = some (bookObj dx lam (es.push ⟨(SK w).hash x, .str x tx, .ref a⟩) (ep + 1)) → R (.ok (.ret (.ref a))) { s with heap := h', toks := tk }) :
    codeAny (model Challenge.rw_mq0106_01.row.prog w) A (.call (.ref 98) ⟨[.ref b, .str x tx], []⟩) R s := by
  have hdn : dx ∉ [(b, bookObj dx lam es ep), (n, listOf xs c)].map (·.1) := by intro q; simp only [List.map_cons, List.map_nil, List.mem_cons, List.not_mem_nil, or_false] at q; rcases q with q | q <;> (rw [q] at hdx) <;> (first | (rw [hbo] at hdx; simp [emptyDict] at hdx) | (rw [hn] at hdx; simp [emptyDict] at hdx))
  have hbk : ∀ {g L : _} h', Fr g L h' (fun y => [(PySem.Str.ofString "self", Value.ref b), (PySem.Str.ofString "key", Value.str x tx)].reverse.lookup y) → News g L h' [(b, bookObj dx lam es ep), (n, listOf xs c)] → (∀ a o, a ∉ [(b, bookObj dx lam es ep), (n, listOf xs c)].map (·.1) → s.heap.get? a = some o → g.get? a = some o) → h'.get? b = some (bookObj dx lam es ep) :=
    fun h' _ N _ => News.get N (.head _)
  revert X; k_fill; intro X
  refine' enterS (binds := [(PySem.Str.ofString "self", Value.ref b), (PySem.Str.ofString "key", Value.str x tx)]) X T S [(b, bookObj dx lam es ep), (n, listOf xs c)] (by intro q hq; rcases List.mem_cons.mp hq with rfl | hq; exact ⟨hbo, hbb⟩; rw [List.mem_singleton.mp hq]; exact ⟨hn, hb0⟩) ?k6 ?k7 ?k8 ?k9 ?kB ?_ ?c2 ?c3 ?c4 ?c5
  case k6 => k_is
  case k7 => k_is
  case k8 => k_room
  case k9 => exact BindsTo.of_eq rfl
  case kB => exact locs rfl
  case c2 => decide
  case c3 => exact rfl
  case c4 => exact rfl
  case c5 => exact rfl
  intro g' L' h' F' N' X' T' S' hg' hL' hl'
  (try dsimp only)
  have hdxg := F'.keep _ _ (hg' _ _ (by exact hdn) hdx)
  refine ks_wpAt_execs_cons (ks_wpAt_Return_some ?_)
  refine at_bind (at_bind (at_any (nm_builtin (v := .builtin "getattr") F' X' T' (by kernel_rfl) (by kernel_rfl) ?_)))
  refine at_callWith_builtin rfl (at_evalArgs (at_spliced_cons ?_))
  simp only [Bool.false_eq_true, if_false]
  refine at_any (nmX_local F' rfl rfl ?_)
  refine at_spliced_cons ?_
  simp only [Bool.false_eq_true, if_false]
  refine at_any (wpAny_Constant_str ?_)
  refine at_spliced_cons ?_
  simp only [Bool.false_eq_true, if_false]
  rw [arm_eval_Attribute]
  refine at_bind ?_
  refine' ks_node (x := b) (C := 108) (ox := bookObj dx lam es ep) (odx := some emptyDict) F' X' N' T' ?n1 ?n2 ?n3 ?n4 ?n5 ?n6 ?n7 ?n8 ?n9 ?n10 ?n11 ?n12 ?n13 ?n14 ?n15 ?n16 ?n17 ?n18 ?n19
  case n1 => k_is
  case n2 => exact rfl
  case n3 => exact rfl
  case n4 => exact ⟨hbk _ F' N' hg', rfl, rfl, hdxg⟩
  case n5 => k_is
  case n6 => exact rfl
  case n7 => kernel_rfl
  case n8 => k_is
  case n9 => k_is
  case n10 => k_is
  case n11 => k_is
  case n12 => decide
  case n13 => exact rfl
  case n14 => exact rfl
  case n15 => exact rfl
  case n16 => exact rfl
  case n17 => kernel_rfl
  case n18 => kernel_rfl
  intro so h2 F2 N2 l2
  refine at_any (wpAny_bind (wpAny_standAt (wpAny_bind (wpAny_holding ?_))))
  have hbne : b ≠ 108 := by
    intro e
    have := X' 108 _ (by k_is)
    rw [← e, (N' _ (.head _)).2.2] at this
    cases this
  refine sup_missing (ob := bookObj dx lam es ep) (X'.keeps F2.keep) (News.get N2 (.head _)) (News.get N2 (.tail _ (.head _))) rfl hbne ?_
  refine wpAny_bind (wpAny_letTemporaryGo (wpAny_pure ?_))
  dsimp only
  have hfr : h2.get? h2.objs.size = none := Heap.get?_none_of_le (Nat.le_refl _)
  have kp3 : Kp [] h2 (h2.push (boundObj "collections.defaultdict.__missing__" b)) := fun a o _ e => Heap.get?_push_of_some _ e
  have hq3 : (h2.push (boundObj "collections.defaultdict.__missing__" b)).get? h2.objs.size = some (boundObj "collections.defaultdict.__missing__" b) := Heap.get?_push_size _ rfl
  have F3 := fr_kp0 F2 kp3
  have N3 := news_new F2 (news_kp0 N2 kp3) hfr hq3
  generalize h2.objs.size = q at hq3 hfr N3
  generalize h2.push (boundObj "collections.defaultdict.__missing__" b) = h3 at kp3 hq3 F3 N3
  refine at_spliced_nil ?_
  have I3 : InstAt h3 b (bookObj dx lam es ep) 108 (some emptyDict) := ⟨News.get N3 (.tail _ (.tail _ (.head _))), rfl, rfl, F3.keep _ _ (hg' _ _ hdn hdx)⟩
  refine gq_miss (X'.keeps F3.keep) I3 hh fun h4 tk4 k4 => ?_
  have F4 := fr_kp0 F3 (Kp.of_stays k4)
  have N4 := news_kp0 N3 (Kp.of_stays k4)
  refine at_any (cw_any (keeps_bm (b := b)) (spliced_more (nmX_local F4 rfl rfl (spliced_none ⟨News.get N4 (.head _), ?_⟩))))
  refine bm_call (X'.keeps F4.keep) (News.get N4 (.head _)) (News.get N4 (.tail _ (.tail _ (.head _)))) ?_
  have hlamg : LamAt g' lam n := hlam.keeps fun a o e nd ns => hg' a o (by
    intro q
    simp only [List.map_cons, List.map_nil, List.mem_cons, List.not_mem_nil, or_false] at q
    rcases q with q | q
    · rw [q, hbo] at e; cases e; exact nd _ _ rfl
    · rw [q, hn] at e; cases e; exact ns _ _ rfl) e
  have nb : g'.get? b = none := (N' _ (.head _)).2.2
  have nn : g'.get? n = none := (N' _ (.tail _ (.head _))).2.2
  refine dm_run (hb := g') X' T' (by exact F4.keep) (by rw [depth_deeper]; omega) (by exact News.get N4 (.tail _ (.tail _ (.head _)))) nb hk hv hs hz (by exact hlamg.keeps fun a o e _ _ => F4.keep a o e) (by exact News.get N4 (.tail _ (.tail _ (.tail _ (.head _))))) nn hsz fun h5 tk5 a t5 kp hn5 fr ha hb5 => ?_
  have up : Kp [b, n] s.heap h4 := kp_of (D := [b, n]) F4 hg'
  refine k h5 tk5 a t5 (up.trans kp) hn5 ?_ ha hb5
  cases z : s.heap.get? a with
  | none => rfl
  | some o' =>
    by_cases e1 : a = n
    · rw [e1, News.get N4 (.tail _ (.tail _ (.tail _ (.head _))))] at fr; cases fr
    · by_cases e2 : a = b
      · rw [e2, News.get N4 (.tail _ (.tail _ (.head _)))] at fr; cases fr
      · rw [up a o' (by simp [e1, e2]) z] at fr; cases fr
end
end
theorem off_DF : True := by
  w_top off
  k_with_none
  trivial
-- DF
section
open PySem PySem.W PyProof.Rows PySem.Calls Builtin Builtin.ObjectAttr Builtin.Getset_descriptor
section
variable {w : World} {A : Around} {E : Value → Shared → Prop} {R : Result → Shared → Prop} {s : Shared} {h : Heap}
theorem sf_find (X : (hd.heap_1 w.params).In h) : Looks (model Challenge.rw_mq0106_01.row.prog w) h (typeLookup (.ref 108) "__setattr__") (some (.builtin "object.__setattr__")) := by
  revert X; k_fill; intro X
  exact looks_findIn X (by kernel_rfl)
theorem sf_attr (X : (hd.heap_1 w.params).In h) : Looks (model Challenge.rw_mq0106_01.row.prog w) h (typeLookup (.ref 108) "_frozen") none := by
  revert X; k_fill; intro X
  exact looks_findIn X (by kernel_rfl)
theorem sf_sub (X : (hd.heap_1 w.params).In h) : Looks (model Challenge.rw_mq0106_01.row.prog w) h (isSubtype (.ref 108) (.type "object")) true := by
  revert X; k_fill; intro X
  exact looks_mroIn X (by kernel_rfl)
theorem sf_refuse (self : Value) : refuseLoop self "__setattr__" [.ref 108, .type "collections.defaultdict", .type "dict", .type "object"] = pure () := by kernel_rfl
theorem sf_cd (X : (hd.heap_1 w.params).In h) : ∃ cd : ClassData, cd.hasDict = true ∧ Looks (model Challenge.rw_mq0106_01.row.prog w) h (classData 108) cd := by
  revert X; k_fill; intro X
  have e : (clsIn (hd.heap_1 w.params) 108).map (·.hasDict) = some true := by kernel_rfl
  cases q : clsIn (hd.heap_1 w.params) 108 with
  | none => rw [q] at e; cases e
  | some cd => rw [q] at e; exact ⟨cd, Option.some.inj e, looks_clsIn X q⟩
/-- the store of _frozen -/
noncomputable abbrev frozenDict (w : World) (fz : Addr) (tk : Tok) : Obj := dictOf [⟨PyData.keyHash w.params "_frozen", .str "_frozen" tk, .ref fz⟩] 1
theorem sf_store {b dx lam fz : Addr} {es : Array DictEntry} {ep : Nat} {Q : Unit → Shared → Prop} (X : (hd.heap_1 w.params).In s.heap) (hb : s.heap.get? b = some (bookObj dx lam es ep)) (hdx : s.heap.get? dx = some emptyDict)
    (hq : ∀ h' tk tk', h'.get? dx = some (frozenDict w fz tk') → (∀ a, a ≠ dx → h'.get? a = s.heap.get? a) → Q () { s with heap := h', toks := tk }) :
    wpAny (model Challenge.rw_mq0106_01.row.prog w) A (setAttr (.ref b) "_frozen" (.ref fz)) Q E s := by
  obtain ⟨h, g, d, t, os⟩ := s
  dsimp only at X hb hdx hq
  have F0 : Looks (model Challenge.rw_mq0106_01.row.prog w) h (typeOf (.ref b)) (.ref 108) := (Looks.ld (part := some headPart) hb).andThen .now
  have F1 := sf_find X
  have F2 := sf_attr X
  have F3 : Looks (model Challenge.rw_mq0106_01.row.prog w) h (isInstance (.ref b) (.type "object")) true := F0.andThen (sf_sub X)
  have F4 := fd_mro X
  obtain ⟨cd, hcd, F5⟩ := sf_cd X
  have SF := PySem.F.store_object
  refine wpAny_bind (wpAny_mkText (wpAny_bind (wpAny_bind (wpAny_bind (F0.at (F1.at (wpAny_holding ?_)))))))
  rw [SF.slot.bind]
  refine wpAny_bind (wpAny_pure (wpAny_bind (wpAny_call ?_)))
  refine codeAny_call_builtin SF.slot.plain SF.entry (@check_slot (model Challenge.rw_mq0106_01.row.prog w) _ _ _ "object.__setattr__" "object" "__setattr__" (.ref b) [.str "_frozen" t, .ref fz] [] _ SF.kind SF.split F3 (SF.args (.ref b) (.str "_frozen" t) (.ref fz)) ?_)
  show wpAny _ _ (Builtin.«object.__setattr__» ⟨[.ref b, .str "_frozen" t, .ref fz], []⟩) _ _ _
  rw [osa_eq, refuse_eq]
  refine wpAny_bind (wpAny_bind (F0.at (wpAny_bind (F4.at ?_))))
  rw [sf_refuse]
  refine wpAny_pure (wpAny_bind (F0.at (wpAny_bind (F2.at (wpAny_bind (wpAny_pure ?_))))))
  dsimp only
  refine wpAny_bind (wpAny_pure (wpAny_bind (wpAny_bind (wpAny_loadPart hb (wpAny_bind (F5.at ?_))))))
  rw [hcd]
  refine wpAny_pure (a := some dx) (wpAny_bind (wpAny_pure (wpAny_bind ?_)))
  unfold nsSet
  refine wpAny_bind (wpAny_bind (wpAny_askSetting (wpAny_pure (wpAny_bind (wpAny_mkText (wpAny_bind (wpAny_loadPart hdx ?_)))))))
  refine wpAny_updatePart hdx ?_
  have hu := Heap.get?_update_self (Obj.putName "_frozen" (PyData.keyHash w.params "_frozen") (.str "_frozen" (t + 1)) (.ref fz)) hdx rfl
  have hu' : (h.update dx (Obj.putName "_frozen" (PyData.keyHash w.params "_frozen") (.str "_frozen" (t + 1)) (.ref fz))).get? dx = some (frozenDict w fz (t + 1)) := by
    refine hu.trans ?_
    have := putName_dict "_frozen" (PyData.keyHash w.params "_frozen") (.str "_frozen" (t + 1)) (.ref fz) [] 0
    exact congrArg some this
  refine wpAny_bind (wpAny_lookBehind hu' (pastItsLine_dict (by rw [List.size_toArray, sizeLine_eq]; exact (by decide : 1 ≤ 16777216 + 1))) ?_)
  refine wpAny_pure ?_
  exact wpAny_pure (wpAny_pure (hq _ _ (t + 1) hu' fun a n => Heap.get?_update_other _ _ (Ne.symm n)))
end
end
theorem off_DG : True := by
  w_top off
  k_with_none
  trivial
-- DG
section
open PySem PySem.W PyProof.Rows PySem.Calls
theorem kw_DG_1 : True := by
  k_with_none
  k_with "mytree" => ((first | (with_reducible show wpAny _ _ _ _ _ _) | (with_reducible show ite _ _ _)); (fail_if_success (with_reducible show wpAny _ _ (eval (PySem.Expr.Lambda _ _ _ _) _) _ _ _)); (fail_if_success (with_reducible show wpAny _ _ (PySem.setAttr _ _ _) _ _ _)))
  k_with "mygo" => (repeat' (first | (k_unfold; (try dsimp only)) | (walk_at "mytree"; walk1) | (dsimp only; walk_at "mytree"; walk1) | fail "no step"))
  trivial
noncomputable def frzQual : Str := Str.ofString "FreezableDefaultDict.freeze" ++ ".<locals>." ++ "<lambda>"
noncomputable abbrev frzParams (p : Pos) : Arguments := { posonlyargs := [], args := [{ arg := "key", annotation := none, pos := p }], vararg := none, kwonlyargs := [], kw_defaults := [], kwarg := none, defaults := [] }
noncomputable abbrev frzScope : Scope := { kind := .function, names := [(Str.ofString "key", .local), (Str.ofString "self", .free)], isGenerator := false, isCoroutine := false }
noncomputable abbrev frzBody : Expr := .Call (.Attribute (.Name (Str.ofString "self") ⟨43, 35, 43, 39⟩) (Str.ofString "default_factory") ⟨43, 35, 43, 55⟩) [] [] ⟨43, 35, 43, 57⟩
/-- the frozen book's own way to its factory -/
inductive FrzAt (h : Heap) (fz b : Addr) : Prop
  | mk (nm qual : Str) (p0 : Pos) (c : Addr) (pm : Value) (c' : Addr) (ctv : Value) (o : Obj) (_ : h.get? fz = some (kla_obj nm qual (frzParams p0) frzBody frzScope [(Str.ofString "self", c)] pm c' ctv)) (_ : h.CodeRec (.ref c') qual) (_ : h.get? c = some o) (_ : o.data = .cell (some (.ref b)))
theorem FrzAt.keeps {h h' : Heap} {fz b : Addr} (x : FrzAt h fz b) (k : ∀ a o, h.get? a = some o → (∀ es ep, o.data ≠ .dict es ep) → (∀ xs e, o.data ≠ .seq xs e) → h'.get? a = some o) : FrzAt h' fz b := by
  obtain ⟨nm, qual, p0, c, pm, c', ctv, o, h1, ⟨c₂, oc, vs, t, e2, hoc, hd, hv⟩, h3, h4⟩ := x
  refine ⟨nm, qual, p0, c, pm, c', ctv, o, k _ _ h1 (fun _ _ q => by cases q) (fun _ _ q => by cases q), ⟨c₂, oc, vs, t, e2, k _ _ hoc (fun _ _ q => by rw [hd] at q; cases q) (fun _ _ q => by rw [hd] at q; cases q), hd, hv⟩, k _ _ h3 (fun _ _ q => by rw [h4] at q; cases q) (fun _ _ q => by rw [h4] at q; cases q), h4⟩
section
variable {w : World} {A : Around} {s : Shared} {hb : Heap} {loose : List Str} {mean : ExcName → Option Value} {mg mb : Str → Option Value} {R : Result → Shared → Prop}
theorem freeze_spec (X : (hd.heap_1 w.params).In hb) (T : Top topProg loose mean mg mb hb) (S : hb.StaysIn s.heap) (CH : CodeHd hb 104 100) (hroom : A.depth < 900) {b dx lam : Addr} {es : Array DictEntry} {ep : Nat}
    (hbo : s.heap.get? b = some (bookObj dx lam es ep)) (hdx : s.heap.get? dx = some emptyDict) (hdb : hb.get? dx = none) (hP : s.heap.get? 100 = some (tabObj #[])) (hPb : hb.get? 100 = none)
    (k : ∀ h' tk fz c' tk', Kp [100, dx] s.heap h' → h'.get? 100 = some (tabObj #[rawInt 43, rawInt 23, .ref c']) → h'.CodeRec (.ref c') frzQual → h'.get? dx = some (frozenDict w fz tk') → FrzAt h' fz b → R (.ok (.ret .none)) { s with heap := h', toks := tk }) :
    codeAny (model Challenge.rw_mq0106_01.row.prog w) A (.call (.ref 105) ⟨[.ref b], []⟩) R s := by
  have hPd : (100 : Addr) ≠ dx := by intro e; rw [e, hdx] at hP; simp [emptyDict] at hP
  have hb1 : b ≠ 100 := by intro e; rw [e, hP] at hbo; simp at hbo
  have hb2 : b ≠ dx := by intro e; rw [e, hdx] at hbo; simp [emptyDict] at hbo
  revert X; k_fill; intro X
  refine' enterC (binds := [(PySem.Str.ofString "self", Value.ref b)]) X T S [(100, tabObj #[]), (dx, emptyDict)] (by intro q hq; rcases List.mem_cons.mp hq with rfl | hq; exact ⟨hP, hPb⟩; rw [List.mem_singleton.mp hq]; exact ⟨hdx, hdb⟩) ?k6 ?k7 ?k8 ?k9 ?kB ?kD ?_ ?c3 ?c4 ?c5
  case k6 => k_is
  case k7 => k_is
  case k8 => k_room
  case k9 => exact BindsTo.of_eq rfl
  case kB => exact rfl
  case kD => decide +kernel
  case c3 => exact rfl
  case c4 => exact rfl
  case c5 => exact rfl
  intro g' L' h' tk' cells' F' N' Y' X' T' S' hg' hL' hl'
  k_cells Y'
  (try simp only [List.cons_append, List.nil_append] at N')
  (try dsimp only)
  show wpAny _ _ _ _ _ _
  k_fold
  clear X S
  have CH' : CodeHd g' 104 100 := CH.keeps S'
  walk_at "mygo"
  refine kla_eval rfl ?_
  have u1 : (100 : Nat) < L' := hl' _ (.head _)
  have u2 : (dx : Nat) < L' := hl' _ (.tail _ (.head _))
  have u3 : @Ne Nat 100 dx := hPd
  refine' kla_nest (ps := #[]) F' N' T' CH' rfl (clos := [(Str.ofString "self", L' + 1)]) ?U ?tt ?am ?cl ?_
  case tt => exact True.intro
  case am => rfl
  case cl => exact rfl
  case U => k_updF
  intro f' c' oc' vs' t' ct' h'' tk'' F'' N'' d1' d2' l1 l2
  rename_i oS dS
  refine nm_cellN (v := .ref b) N'' rfl (.tail _ (.tail _ (.head _))) dS ?_
  have hbg := F''.keep _ _ (hg' b _ (by simp [hb1, hb2]) hbo)
  refine sf_store (X'.keeps F''.keep) hbg (News.get N'' (.tail _ (.tail _ (.tail _ (.tail _ (.head _)))))) fun h3 tk3 tk4 e1 e2 => ?_
  have cd : (c' : Nat) ≠ dx := Nat.ne_of_gt (l1 (dx, emptyDict) (.tail _ (.tail _ (.head _))))
  have fd : (f' : Nat) ≠ dx := Nat.ne_of_gt (Nat.lt_trans (l1 (dx, emptyDict) (.tail _ (.tail _ (.head _)))) l2)
  have Ld : L' + 1 ≠ dx := Nat.ne_of_gt (Nat.lt_succ_of_lt u2)
  have rcd : h3.CodeRec (.ref c') frzQual := ⟨c', oc', vs', t', rfl, (e2 _ cd).trans (News.get N'' (.tail _ (.head _))), d1', d2'⟩
  walk_at "mygo"
  refine k h3 _ f' c' tk4 ?_ ((e2 _ hPd).trans (News.get N'' (.tail _ (.tail _ (.tail _ (.head _)))))) rcd e1 ?_
  · intro a o ha e
    simp only [List.mem_cons, List.not_mem_nil, or_false, not_or] at ha
    exact (e2 a ha.2).trans (F''.keep _ _ (hg' a o (by simp [ha.1, ha.2]) e))
  · exact ⟨_, _, _, L' + 1, _, c', ct', oS, (e2 _ fd).trans (News.get N'' (.head _)), rcd, (e2 _ Ld).trans (News.get N'' (.tail _ (.tail _ (.head _)))), dS⟩
theorem freeze_again (X : (hd.heap_1 w.params).In hb) (T : Top topProg loose mean mg mb hb) (S : hb.StaysIn s.heap) (CH : CodeHd hb 104 100) (hroom : A.depth < 900) {b dx lam : Addr} {es : Array DictEntry} {ep : Nat} {c₀ : Addr}
    (hbo : s.heap.get? b = some (bookObj dx lam es ep)) (hdx : s.heap.get? dx = some emptyDict) (hdb : hb.get? dx = none) (hP : s.heap.get? 100 = some (tabObj #[rawInt 43, rawInt 23, .ref c₀])) (hPb : hb.get? 100 = none) (hrc : s.heap.CodeRec (.ref c₀) frzQual)
    (k : ∀ h' tk fz c' tk', Kp [100, dx] s.heap h' → h'.get? 100 = some (tabObj #[rawInt 43, rawInt 23, .ref c']) → h'.CodeRec (.ref c') frzQual → h'.get? dx = some (frozenDict w fz tk') → FrzAt h' fz b → R (.ok (.ret .none)) { s with heap := h', toks := tk }) :
    codeAny (model Challenge.rw_mq0106_01.row.prog w) A (.call (.ref 105) ⟨[.ref b], []⟩) R s := by
  have hPd : (100 : Addr) ≠ dx := by intro e; rw [e, hdx] at hP; simp [emptyDict] at hP
  have hb1 : b ≠ 100 := by intro e; rw [e, hP] at hbo; simp at hbo
  have hb2 : b ≠ dx := by intro e; rw [e, hdx] at hbo; simp [emptyDict] at hbo
  revert X; k_fill; intro X
  refine' enterC (binds := [(PySem.Str.ofString "self", Value.ref b)]) X T S [(100, tabObj #[rawInt 43, rawInt 23, .ref c₀]), (dx, emptyDict)] (by intro q hq; rcases List.mem_cons.mp hq with rfl | hq; exact ⟨hP, hPb⟩; rw [List.mem_singleton.mp hq]; exact ⟨hdx, hdb⟩) ?k6 ?k7 ?k8 ?k9 ?kB ?kD ?_ ?c3 ?c4 ?c5
  case k6 => k_is
  case k7 => k_is
  case k8 => k_room
  case k9 => exact BindsTo.of_eq rfl
  case kB => exact rfl
  case kD => decide +kernel
  case c3 => exact rfl
  case c4 => exact rfl
  case c5 => exact rfl
  intro g' L' h' tk' cells' F' N' Y' X' T' S' hg' hL' hl'
  k_cells Y'
  (try simp only [List.cons_append, List.nil_append] at N')
  (try dsimp only)
  show wpAny _ _ _ _ _ _
  k_fold
  clear X S
  have CH' : CodeHd g' 104 100 := CH.keeps S'
  walk_at "mygo"
  refine kla_eval rfl ?_
  have u1 : (100 : Nat) < L' := hl' _ (.head _)
  have u2 : (dx : Nat) < L' := hl' _ (.tail _ (.head _))
  have u3 : @Ne Nat 100 dx := hPd
  refine' kla_hit (c' := c₀) (ps := #[rawInt 43, rawInt 23, .ref c₀]) F' N' T' CH' rfl ?U ?tt ?am (clos := [(Str.ofString "self", L' + 1)]) ?cl ?_
  case tt => simp [TriplesOk, rawInt]
  case am => simp [codeAmong, rawInt]
  case cl => exact rfl
  case U => k_mem
  intro f' ct' h'' tk'' F'' N'' l1
  rename_i oS dS
  refine nm_cellN (v := .ref b) N'' rfl (.tail _ (.head _)) dS ?_
  have hbg := F''.keep _ _ (hg' b _ (by simp [hb1, hb2]) hbo)
  refine sf_store (X'.keeps F''.keep) hbg (News.get N'' (.tail _ (.tail _ (.tail _ (.head _))))) fun h3 tk3 tk4 e1 e2 => ?_
  have fd : (f' : Nat) ≠ dx := Nat.ne_of_gt (l1 (dx, emptyDict) (.tail _ (.tail _ (.head _))))
  have Ld : L' + 1 ≠ dx := Nat.ne_of_gt (Nat.lt_succ_of_lt u2)
  have kp : Kp [100, dx] s.heap h3 := by
    intro a o ha e
    simp only [List.mem_cons, List.not_mem_nil, or_false, not_or] at ha
    exact (e2 a ha.2).trans (F''.keep _ _ (hg' a o (by simp [ha.1, ha.2]) e))
  have rcd : h3.CodeRec (.ref c₀) frzQual := by
    obtain ⟨c₂, oc, vs, t, e3, hoc, hd, hv⟩ := hrc
    refine ⟨c₂, oc, vs, t, e3, kp _ _ (fun q => ?_) hoc, hd, hv⟩
    simp only [List.mem_cons, List.not_mem_nil, or_false] at q
    rcases q with q | q
    · rw [q, hP] at hoc; cases hoc; cases hd; simp [rawInt] at hv
    · rw [q, hdx] at hoc; cases hoc; cases hd
  walk_at "mygo"
  refine k h3 _ f' c₀ tk4 kp ((e2 _ hPd).trans (News.get N'' (.tail _ (.tail _ (.head _))))) rcd e1 ?_
  exact ⟨_, _, _, L' + 1, _, c₀, ct', oS, (e2 _ fd).trans (News.get N'' (.head _)), rcd, (e2 _ Ld).trans (News.get N'' (.tail _ (.head _))), dS⟩
end
end
theorem off_DH : True := by
  w_top off
  k_with_none
  trivial
-- DH
section
open PySem PySem.W PyProof.Rows PySem.Calls Builtin Builtin.ObjectAttr Builtin.Getset_descriptor
theorem gs_entry : entryFor table "member_descriptor.__get__" = some Builtin.«member_descriptor.__get__» := entryFor_of_tree (by kernel_rfl)
theorem gs_kind : builtinKind "member_descriptor.__get__" = some .slot := by decide +kernel
theorem gs_split : splitId "member_descriptor.__get__" = some ("member_descriptor", "__get__") := by decide +kernel
theorem gs_args (a b c : Value) : argsOk "member_descriptor.__get__" ⟨[a, b, c], []⟩ := by unfold argsOk; kernel_rfl
theorem df_entry : entryFor table "collections.defaultdict.default_factory" = some Builtin.«collections.defaultdict.default_factory» := entryFor_of_tree (by kernel_rfl)
section
variable {w : World} {A : Around} {E : Value → Shared → Prop} {h : Heap} {g : Array GenState} {d : Drawn} {t : Nat} {os : OsState}
theorem df_inst (X : (hd.heap_1 w.params).In h) : Looks (model Challenge.rw_mq0106_01.row.prog w) h (isInstance (.builtin "collections.defaultdict.default_factory") (.type "member_descriptor")) true := by
  revert X; k_fill; intro X
  exact looks_instIn X (by kernel_rfl)
theorem df_found (X : (hd.heap_1 w.params).In h) {b fz : Addr} {tk' : Tok} {ob : Obj} (I : InstAt h b ob 108 (some (frozenDict w fz tk'))) : Looks (model Challenge.rw_mq0106_01.row.prog w) h (find (.ref b) (.ref 108) "default_factory") (.bind (.builtin "member_descriptor.__get__") (.builtin "collections.defaultdict.default_factory")) := by
  revert X; k_fill; intro X
  exact looks_find X I (by kernel_rfl)
theorem fq_found (X : (hd.heap_1 w.params).In h) {b fz : Addr} {tk' : Tok} {ob : Obj} (I : InstAt h b ob 108 (some (frozenDict w fz tk'))) : Looks (model Challenge.rw_mq0106_01.row.prog w) h (find (.ref b) (.ref 108) "_frozen") (.value (.ref fz)) := by
  revert X; k_fill; intro X
  exact looks_find X I (by kernel_rfl)
theorem df_look (X : (hd.heap_1 w.params).In h) : Looks (model Challenge.rw_mq0106_01.row.prog w) h (typeLookup (.ref 108) "default_factory") (some (.builtin "collections.defaultdict.default_factory")) := by
  revert X; k_fill; intro X
  exact looks_findIn X (by kernel_rfl)
theorem df_type (X : (hd.heap_1 w.params).In h) : Looks (model Challenge.rw_mq0106_01.row.prog w) h (typeOf (.builtin "collections.defaultdict.default_factory")) (.type "member_descriptor") := by
  revert X; k_fill; intro X
  exact looks_typeIn X (by kernel_rfl)
theorem df_get {b dx lam : Addr} {es : Array DictEntry} {ep : Nat} {Q : Value → Shared → Prop} (X : (hd.heap_1 w.params).In h) (hb : h.get? b = some (bookObj dx lam es ep)) (hq : Q (.ref lam) ⟨h, g, d, t, os⟩) :
    wpAny (model Challenge.rw_mq0106_01.row.prog w) A (call (.builtin "member_descriptor.__get__") [.builtin "collections.defaultdict.default_factory", .ref b, .ref 108]) Q E ⟨h, g, d, t, os⟩ := by
  have F0 : Looks (model Challenge.rw_mq0106_01.row.prog w) h (typeOf (.ref b)) (.ref 108) := (Looks.ld (part := some headPart) hb).andThen .now
  have F1 : Looks (model Challenge.rw_mq0106_01.row.prog w) h (isInstance (.ref b) (.type "collections.defaultdict")) true := F0.andThen (fd_subd X)
  refine wpAny_call (codeAny_call_builtin_code (Code.quiet_builtin _ (by decide +kernel)) ?_)
  refine @check_slot (model Challenge.rw_mq0106_01.row.prog w) _ _ _ "member_descriptor.__get__" "member_descriptor" "__get__" (.builtin "collections.defaultdict.default_factory") [.ref b, .ref 108] [] _ gs_kind gs_split (df_inst X) (gs_args _ _ _) ?_
  refine codeAny_builtin gs_entry ?_
  unfold Builtin.«member_descriptor.__get__» descrGet
  refine wpAny_bind (wpAny_of_eq (a := (Value.builtin "collections.defaultdict.default_factory", some (Value.ref b), some (Value.ref 108))) (by first | rfl | kernel_rfl) ?_)
  dsimp only
  unfold descrGetter descrCheckInstance descrNameAndClass
  have hn : descrOwnerAndName "collections.defaultdict.default_factory" = ("collections.defaultdict", "default_factory") := by decide +kernel
  dsimp only
  simp only [hn]
  refine wpAny_bind (wpAny_bind (wpAny_pure (wpAny_bind (F1.at ?_))))
  rw [if_neg (by decide)]
  refine wpAny_pure (wpAny_pure ⟨Code.quiet_builtin _ (by decide +kernel), codeAny_builtin df_entry ?_⟩)
  unfold Builtin.«collections.defaultdict.default_factory»
  dsimp only
  refine wpAny_bind (factory_at (s := ⟨h, g, d, t, os⟩) hb ?_)
  exact wpAny_pure hq
theorem df_attr {b dx lam fz : Addr} {tk' : Tok} {es : Array DictEntry} {ep : Nat} {e : Bool} {Q : Value → Shared → Prop} (X : (hd.heap_1 w.params).In h) (hb : h.get? b = some (bookObj dx lam es ep)) (hdx : h.get? dx = some (frozenDict w fz tk'))
    (hq : Q (.ref lam) ⟨h, g, d, t + 1, os⟩) :
    wpAny (model Challenge.rw_mq0106_01.row.prog w) A (getAttr (.ref b) "default_factory" e) Q E ⟨h, g, d, t, os⟩ := by
  have L0 : Looks (model Challenge.rw_mq0106_01.row.prog w) h (typeOf (.ref b)) (.ref 108) := (Looks.ld (part := some headPart) hb).andThen .now
  have I : InstAt h b (bookObj dx lam es ep) 108 (some (frozenDict w fz tk')) := ⟨hb, rfl, rfl, hdx⟩
  have L1 := gq_ga X
  have L2 := df_found X I
  have L3 := gq_hook X
  unfold getAttr getAttrBy
  refine wpAny_bind (wpAny_mkText (wpAny_holding (wpAny_bind (L0.at (wpAny_bind (L1.at ?_))))))
  show wpAny _ _ (getAttrByItsOwn (.ref b) (.str "default_factory" t) (.ref 108) (.builtin "collections.defaultdict.__getattribute__") true e) _ _ _
  unfold getAttrByItsOwn hookBefore callGetattribute boundAndCalled
  rw [if_pos (show onTheHeap (.ref 108) = true from rfl)]
  refine wpAny_bind (L3.at ?_)
  refine wpAny_bind (wpAny_attempt (wpAny_holding ?_))
  have he : (e && onTheHeap (Value.builtin "collections.defaultdict.__getattribute__")) = false := by cases e <;> rfl
  rw [he]
  show wpAny _ _ (bindSpecial (.builtin "collections.defaultdict.__getattribute__") (.ref b) >>= _) _ _ _
  refine wpAny_bind (wpAny_of_eq (dga_bind _) ?_)
  have F1 : Looks (model Challenge.rw_mq0106_01.row.prog w) h (isInstance (.ref b) (.type "collections.defaultdict")) true := L0.andThen (fd_subd X)
  refine wpAny_call (codeAny_call_builtin_code (Code.quiet_builtin _ (by decide +kernel)) ?_)
  refine @check_slot (model Challenge.rw_mq0106_01.row.prog w) _ _ _ "collections.defaultdict.__getattribute__" "collections.defaultdict" "__getattribute__" (.ref b) [.str "default_factory" t] [] _ dga_kind dga_split F1 (dga_args _ _) ?_
  refine codeAny_builtin dga_entry ?_
  unfold Builtin.«object.__getattribute__»
  show wpAny _ _ (pure ((.ref b, [.str "default_factory" t]) : Value × List Value) >>= _) _ _ _
  refine wpAny_bind (wpAny_pure (wpAny_bind (wpAny_pure (wpAny_bind (L0.at (wpAny_bind (L2.at ?_)))))))
  dsimp only
  unfold bindTo
  show wpAny _ _ (holding [_] (call (.builtin "member_descriptor.__get__") _) >>= fun v => ret v) _ _ _
  refine wpAny_bind (wpAny_holding (df_get X hb ?_))
  refine wpAny_pure ?_
  show wpAny _ _ (handedOut (.ref lam)) _ _ _
  rw [handedOut_of rfl]
  exact wpAny_pure hq
theorem df_method {b dx lam fz : Addr} {tk' : Tok} {es : Array DictEntry} {ep : Nat} {pl : Sem Bool} {Q : Value × List Value → Shared → Prop} (X : (hd.heap_1 w.params).In h) (hb : h.get? b = some (bookObj dx lam es ep)) (hdx : h.get? dx = some (frozenDict w fz tk'))
    (hq : Q (.ref lam, []) ⟨h, g, d, t + 1, os⟩) :
    wpAny (model Challenge.rw_mq0106_01.row.prog w) A (getMethod (.ref b) "default_factory" pl) Q E ⟨h, g, d, t, os⟩ := by
  have L0 : Looks (model Challenge.rw_mq0106_01.row.prog w) h (typeOf (.ref b)) (.ref 108) := (Looks.ld (part := some headPart) hb).andThen .now
  have L1 := gq_ga X
  unfold getMethod specialOf
  dsimp only
  refine wpAny_bind (wpAny_bind (L0.at (L1.at ?_)))
  dsimp only
  have hcan : (Manifest.canonical "collections.defaultdict.__getattribute__" != "object.__getattribute__") = false := by decide +kernel
  rw [hcan]
  refine wpAny_bind (wpAny_bind (L0.at ((gq_hook X).at ?_)))
  rw [if_neg (by decide)]
  refine wpAny_bind (wpAny_bind (L0.at ((df_look X).at ?_)))
  dsimp only
  refine wpAny_bind ((df_type X).at ?_)
  rw [if_pos (by decide)]
  refine wpAny_bind (df_attr X hb hdx (wpAny_pure hq))
end
section
variable {w : World} {A : Around} {s : Shared} {hb : Heap} {loose : List Str} {mean : ExcName → Option Value} {mg mb : Str → Option Value} {R : Result → Shared → Prop}
theorem df_keep {M : Model} {lam n : Addr} {h : Heap} (x : LamAt h lam n) : ∃ k, (k = Keeper.frame ∨ k = Keeper.machine ∨ k = Keeper.boundFrame) ∧ Looks M h (keeperOf (.ref lam)) k := by
  obtain ⟨nm, qual, p, q, r, c₁, pm, c', ctv, o, h1, _⟩ := x
  exact ⟨.frame, .inl rfl, (Looks.ld (part := none) h1).andThen .now⟩
theorem kw_DH_1 : True := by
  k_with_none
  k_with "eval Name" => (k_here; k_dflt (refine' nm_free ?z_F ?z_c ?z_o ?z_d ?_ ?z_a ?z_b; (case z_a => rfl); (case z_b => rfl); (case z_F => k_asm); (case z_c => rfl); (case z_o => assumption); (case z_d => assumption); k_whole))
  k_with "mytree" => ((first | (with_reducible show wpAny _ _ _ _ _ _) | (with_reducible show ite _ _ _)); (fail_if_success (with_reducible show wpAny _ _ (PySem.getMethod _ _ _) _ _ _)); (fail_if_success (with_reducible show wpAny _ _ (PySem.callWith _ _ _ _ _) _ _ _)))
  k_with "mygo" => (repeat' (first | (k_unfold; (try dsimp only)) | (walk_at "mytree"; walk1) | (dsimp only; walk_at "mytree"; walk1) | fail "no step"))
  trivial
theorem frz_spec (X : (hd.heap_1 w.params).In hb) (T : Top topProg loose mean mg mb hb) (S : hb.StaysIn s.heap) (hroom : A.depth < 920) {b dx lam n fz : Addr} {tk' : Tok} {es : Array DictEntry} {ep : Nat} {v : Value} {xs : Array Value} {c : Nat}
    (hfz : FrzAt s.heap fz b) (hbo : s.heap.get? b = some (bookObj dx lam es ep)) (hdx : s.heap.get? dx = some (frozenDict w fz tk')) (hlam : LamAt s.heap lam n)
    (hn : s.heap.get? n = some (listOf xs c)) (hb0 : hb.get? n = none) (hsz : xs.size ≤ 1000)
    (k : ∀ h' tk a t, Kp [n] s.heap h' → h'.get? n = some (listOf (xs.push (.int xs.size t)) (c + 1)) → s.heap.get? a = none → h'.get? a = some (listOf #[] 0) → R (.ok (.ret (.ref a))) { s with heap := h', toks := tk }) :
    codeAny (model Challenge.rw_mq0106_01.row.prog w) A (.call (.ref fz) ⟨[v], []⟩) R s := by
  obtain ⟨nm, qual, p0, c₁, pm, c', ctv, o, h1, h2, h3, h4⟩ := hfz
  revert X; k_fill; intro X
  refine' enterL (binds := [(PySem.Str.ofString "key", v)]) X T S [(n, listOf xs c)] (by intro q hq; rw [List.mem_singleton.mp hq]; exact ⟨hn, hb0⟩) h1 h2 ?k8 ?k9 ?kB ?_ ?c2 ?c3 ?c4 ?c5
  case k8 => k_room
  case k9 => exact rfl
  case kB => exact locs rfl
  case c2 => decide
  case c3 => exact rfl
  case c4 => exact rfl
  case c5 => exact rfl
  intro g' L' h' F' N' X' T' S' hg' hL' hl'
  have hc := hg' _ _ (by intro z; rw [List.mem_singleton.mp z, hn] at h3; cases h3; cases h4) h3
  have hbg := F'.keep _ _ (hg' b _ (by intro z; rw [List.mem_singleton.mp z, hn] at hbo; cases hbo) hbo)
  have hdg := F'.keep _ _ (hg' dx _ (by intro z; rw [List.mem_singleton.mp z, hn] at hdx; simp at hdx) hdx)
  have hlg : LamAt h' lam n := hlam.keeps fun a o e nd ns => F'.keep _ _ (hg' a o (by intro z; rw [List.mem_singleton.mp z, hn] at e; cases e; exact ns _ _ rfl) e)
  (try dsimp only)
  show wpAny _ _ _ _ _ _
  k_fold
  clear X T S
  walk_at "mygo"
  refine df_method (X'.keeps F'.keep) hbg hdg ?_
  dsimp only
  refine cw_any0 (P := fun h => LamAt h lam n) (fun h x => df_keep x) hlg (wpAny_call ?_)
  refine lam_spec (hb := g') X' T' (by exact F'.keep) (by rw [depth_deeper]; omega) (by exact hlg) (by exact News.get N' (.head _)) (N' _ (.head _)).2.2 hsz fun h2 tk a t kp hn2 fr ha => ?_
  have up : Kp [n] s.heap h' := kp_of F' hg'
  refine k h2 tk a t (up.trans kp) hn2 ?_ ha
  cases z : s.heap.get? a with
  | none => rfl
  | some o' =>
    by_cases e : a = n
    · rw [e, News.get N' (.head _)] at fr; cases fr
    · rw [up a o' (by simpa using e) z] at fr; cases fr
end
end
theorem off_DI : True := by
  w_top off
  k_with_none
  trivial
-- DI
section
open PySem PySem.W PyProof.Rows PySem.Calls
section
variable {w : World} {A : Around} {s : Shared} {hb : Heap} {loose : List Str} {mean : ExcName → Option Value} {mg mb : Str → Option Value} {R : Result → Shared → Prop}
theorem frz_keep {M : Model} {fz b : Addr} {h : Heap} (x : FrzAt h fz b) : ∃ k, (k = Keeper.frame ∨ k = Keeper.machine ∨ k = Keeper.boundFrame) ∧ Looks M h (keeperOf (.ref fz)) k := by
  obtain ⟨nm, qual, p0, c₁, pm, c', ctv, o, h1, _⟩ := x
  exact ⟨.frame, .inl rfl, (Looks.ld (part := none) h1).andThen .now⟩
theorem missF (X : (hd.heap_1 w.params).In hb) (T : Top topProg loose mean mg mb hb) (S : hb.StaysIn s.heap) (hroom : A.depth < 900) (hh : A.handled = none) {b dx lam n fz : Addr} {tk' : Tok} {es : Array DictEntry} {ep : Nat} {x : Str} {tx : Tok} {xs : Array Value} {c : Nat}
    (hbo : s.heap.get? b = some (bookObj dx lam es ep)) (hbb : hb.get? b = none) (hdx : s.heap.get? dx = some (frozenDict w fz tk')) (hfz : FrzAt s.heap fz b)
    (hlam : LamAt s.heap lam n) (hn : s.heap.get? n = some (listOf xs c)) (hb0 : hb.get? n = none) (hsz : xs.size ≤ 1000)
    (k : ∀ h' tk a t, Kp [n] s.heap h' → h'.get? n = some (listOf (xs.push (.int xs.size t)) (c + 1)) → s.heap.get? a = none → h'.get? a = some (listOf #[] 0) → R (.ok (.ret (.ref a))) { s with heap := h', toks := tk }) :
    codeAny (model Challenge.rw_mq0106_01.row.prog w) A (.call (.ref 98) ⟨[.ref b, .str x tx], []⟩) R s := by
  have hdn : dx ∉ [(n, listOf xs c)].map (·.1) := by intro q; rw [List.mem_singleton.mp q, hn] at hdx; simp at hdx
  have hbk : ∀ {g L : _} h', Fr g L h' (fun y => [(PySem.Str.ofString "self", Value.ref b), (PySem.Str.ofString "key", Value.str x tx)].reverse.lookup y) → News g L h' [(n, listOf xs c)] → (∀ a o, a ∉ [(n, listOf xs c)].map (·.1) → s.heap.get? a = some o → g.get? a = some o) → h'.get? b = some (bookObj dx lam es ep) :=
    fun h' F _ hg => F.keep _ _ (hg b _ (by intro z; rw [List.mem_singleton.mp z, hn] at hbo; simp at hbo) hbo)
  have Xs := X.keeps S
  have hbne : b ≠ 108 := by
    intro e
    obtain ⟨oc, od, cd, sl, q⟩ := fd_obj Xs
    rw [e, q] at hbo; simp at hbo
  revert X; k_fill; intro X
  refine' enterS (binds := [(PySem.Str.ofString "self", Value.ref b), (PySem.Str.ofString "key", Value.str x tx)]) X T S [(n, listOf xs c)] (by intro q hq; rw [List.mem_singleton.mp hq]; exact ⟨hn, hb0⟩) ?k6 ?k7 ?k8 ?k9 ?kB ?_ ?c2 ?c3 ?c4 ?c5
  case k6 => k_is
  case k7 => k_is
  case k8 => k_room
  case k9 => exact BindsTo.of_eq rfl
  case kB => exact locs rfl
  case c2 => decide
  case c3 => exact rfl
  case c4 => exact rfl
  case c5 => exact rfl
  intro g' L' h' F' N' X' T' S' hg' hL' hl'
  (try dsimp only)
  have hdxg := F'.keep _ _ (hg' _ _ (by exact hdn) hdx)
  refine ks_wpAt_execs_cons (ks_wpAt_Return_some ?_)
  refine at_bind (at_bind (at_any (nm_builtin (v := .builtin "getattr") F' X' T' (by kernel_rfl) (by kernel_rfl) ?_)))
  refine at_callWith_builtin rfl (at_evalArgs (at_spliced_cons ?_))
  simp only [Bool.false_eq_true, if_false]
  refine at_any (nmX_local F' rfl rfl ?_)
  refine at_spliced_cons ?_
  simp only [Bool.false_eq_true, if_false]
  refine at_any (wpAny_Constant_str ?_)
  refine at_spliced_cons ?_
  simp only [Bool.false_eq_true, if_false]
  rw [arm_eval_Attribute]
  refine at_bind ?_
  refine' ks_node (x := b) (C := 108) (ox := bookObj dx lam es ep) (odx := some (frozenDict w fz tk')) F' X' N' T' ?n1 ?n2 ?n3 ?n4 ?n5 ?n6 ?n7 ?n8 ?n9 ?n10 ?n11 ?n12 ?n13 ?n14 ?n15 ?n16 ?n17 ?n18 ?n19
  case n1 => k_is
  case n2 => exact rfl
  case n3 => exact rfl
  case n4 => exact ⟨hbk _ F' N' hg', rfl, rfl, hdxg⟩
  case n5 => k_is
  case n6 => exact rfl
  case n7 => kernel_rfl
  case n8 => k_is
  case n9 => k_is
  case n10 => k_is
  case n11 => k_is
  case n12 => decide
  case n13 => exact rfl
  case n14 => exact rfl
  case n15 => exact rfl
  case n16 => exact rfl
  case n17 => kernel_rfl
  case n18 => kernel_rfl
  intro so h2 F2 N2 l2
  refine at_any (wpAny_bind (wpAny_standAt (wpAny_bind (wpAny_holding ?_))))
  refine sup_missing (ob := bookObj dx lam es ep) (X'.keeps F2.keep) (News.get N2 (.head _)) (F2.keep _ _ (hg' b _ (by intro z; rw [List.mem_singleton.mp z, hn] at hbo; simp at hbo) hbo)) rfl hbne ?_
  refine wpAny_bind (wpAny_letTemporaryGo (wpAny_pure ?_))
  dsimp only
  have hfr : h2.get? h2.objs.size = none := Heap.get?_none_of_le (Nat.le_refl _)
  have kp3 : Kp [] h2 (h2.push (boundObj "collections.defaultdict.__missing__" b)) := fun a o _ e => Heap.get?_push_of_some _ e
  have hq3 : (h2.push (boundObj "collections.defaultdict.__missing__" b)).get? h2.objs.size = some (boundObj "collections.defaultdict.__missing__" b) := Heap.get?_push_size _ rfl
  have F3 := fr_kp0 F2 kp3
  have N3 := news_new F2 (news_kp0 N2 kp3) hfr hq3
  generalize h2.objs.size = q at hq3 hfr N3
  generalize h2.push (boundObj "collections.defaultdict.__missing__" b) = h3 at kp3 hq3 F3 N3
  refine at_spliced_nil ?_
  have hb3 := F3.keep _ _ (hg' b _ (by intro z; rw [List.mem_singleton.mp z, hn] at hbo; simp at hbo) hbo)
  have hd3 := F3.keep _ _ (hg' _ _ hdn hdx)
  have I3 : InstAt h3 b (bookObj dx lam es ep) 108 (some (frozenDict w fz tk')) := ⟨hb3, rfl, rfl, hd3⟩
  refine gq_hit (X'.keeps F3.keep) I3 (fq_found (X'.keeps F3.keep) I3) ?_
  have up0 : ∀ a o, s.heap.get? a = some o → (∀ xs e, o.data ≠ .seq xs e) → h3.get? a = some o := fun a o e ns => F3.keep _ _ (hg' a o (by intro z; rw [List.mem_singleton.mp z, hn] at e; cases e; exact ns _ _ rfl) e)
  have hlg : LamAt h3 lam n := hlam.keeps fun a o e nd ns => up0 a o e ns
  have hfg : FrzAt h3 fz b := hfz.keeps fun a o e nd ns => up0 a o e ns
  refine at_any (cw_any (P := fun h => FrzAt h fz b) (fun h x => frz_keep x) (spliced_more (nmX_local F3 rfl rfl (spliced_none ⟨hfg, ?_⟩))))
  refine wpAny_call ?_
  refine frz_spec (hb := g') X' T' (by exact F3.keep) (by rw [depth_deeper]; omega) (by exact hfg) (by exact hb3) (by exact hd3) (by exact hlg) (by exact News.get N3 (.tail _ (.tail _ (.head _)))) (N' _ (.head _)).2.2 hsz fun h5 tk5 a t5 kp hn5 fr ha => ?_
  have up : Kp [n] s.heap h3 := kp_of (D := [n]) F3 hg'
  refine k h5 tk5 a t5 (up.trans kp) hn5 ?_ ha
  cases z : s.heap.get? a with
  | none => rfl
  | some o' =>
    by_cases e : a = n
    · rw [e, News.get N3 (.tail _ (.tail _ (.head _)))] at fr; cases fr
    · rw [up a o' (by simpa using e) z] at fr; cases fr
end
end
theorem off_DJ : True := by
  w_top off
  k_with_none
  trivial
-- DJ
section
open PySem PySem.W PyProof.Rows PySem.Calls
/-- a book's entries, by key, token and list -/
noncomputable abbrev BItem := Str × Tok × Addr
noncomputable def esOf (w : World) (its : List BItem) : Array DictEntry := (its.map fun p => (⟨(SK w).hash p.1, .str p.1 p.2.1, .ref p.2.2⟩ : DictEntry)).toArray
theorem esOf_size {w : World} {its : List BItem} : (esOf w its).size = its.length := by simp [esOf]
theorem esOf_keys {w : World} {its : List BItem} : KeysOf (SK w) (esOf w its) := by
  intro e he
  simp only [esOf, List.mem_toArray, List.mem_map] at he
  obtain ⟨p, _, rfl⟩ := he
  exact ⟨p.1, sk_key, rfl⟩
theorem esOf_push {w : World} {its : List BItem} {x : Str} {tx : Tok} {a : Addr} : (esOf w its).push ⟨(SK w).hash x, .str x tx, .ref a⟩ = esOf w (its ++ [(x, tx, a)]) := by simp [esOf]
theorem sk_is {w : World} {x y : Str} {t : Tok} : (SK w).is x (.str y t) = decide (x = y) := KeyKind.is_eq_decide sk_key x
theorem esOf_find {w : World} {its : List BItem} {x : Str} : findBy (SK w).is (esOf w its) x = (its.find? (fun p => decide (x = p.1))).map fun p => .ref p.2.2 := by
  unfold findBy esOf
  rw [List.find?_toArray]
  induction its with
  | nil => rfl
  | cons p r ih =>
    simp only [List.map_cons, List.find?_cons, sk_is]
    cases decide (x = p.1) with
    | true => rfl
    | false => exact ih
section
variable {w : World} {A : Around} {E : Value → Shared → Prop} {s : Shared} {b : Addr} {ob : Obj} {x : Str} {tx : Tok} {value slice : Expr}
theorem bk_tail {Q : Value → Shared → Prop} {ops : List Value} (X : (hd.heap_1 w.params).In s.heap) (hb : s.heap.get? b = some ob) (hc : ob.cls = .ref 108) (hg : wpAny (model Challenge.rw_mq0106_01.row.prog w) A (getItem (.ref b) (.str x tx)) Q E s)
    (hs : subscripted slice false (.ref b) (.str x tx) = operate ops (getItem (.ref b) (.str x tx))) :
    wpAny (model Challenge.rw_mq0106_01.row.prog w) A (subscriptTail value slice (.ref b) (.str x tx)) Q E s := by
  have F0 : Looks (model Challenge.rw_mq0106_01.row.prog w) s.heap (typeOf (.ref b)) (.ref 108) := by
    have := (Looks.ld (M := model Challenge.rw_mq0106_01.row.prog w) (part := some headPart) hb).andThen (f := fun o => pure o.cls) .now
    rw [hc] at this; exact this
  have F2 := fd_getitem X
  unfold subscriptTail
  refine wpAny_bind ?_
  unfold getitemInPython specialOf
  refine wpAny_bind (wpAny_bind (F0.here (F2.here ?_)))
  refine wpAny_pure ?_
  rw [hs]
  exact wpAny_bind (wpAny_operating (wpAny_mono hg (fun r s₃ h₃ => wpAny_bind (wpAny_letTemporaryGo (wpAny_pure h₃))) fun _ _ x => x))
end
section
variable {w : World} {A : Around} {E : Value → Shared → Prop} {s : Shared} {hb : Heap} {loose : List Str} {mean : ExcName → Option Value} {mg mb : Str → Option Value} {value slice : Expr} {Q : Value → Shared → Prop}
  {b dx lam n fz : Addr} {its : List BItem} {ep : Nat} {x : Str} {tx tk' : Tok} {xs : Array Value} {c : Nat} {ops : List Value}
theorem bk_hit {p : BItem} (X : (hd.heap_1 w.params).In s.heap) (hbo : s.heap.get? b = some (bookObj dx lam (esOf w its) ep)) (hf : its.find? (fun p => decide (x = p.1)) = some p) (hq : Q (.ref p.2.2) { s with toks := s.toks + 1 })
    (hs : subscripted slice false (.ref b) (.str x tx) = operate ops (getItem (.ref b) (.str x tx))) :
    wpAny (model Challenge.rw_mq0106_01.row.prog w) A (subscriptTail value slice (.ref b) (.str x tx)) Q E s := by
  refine bk_tail X hbo rfl ?_ hs
  obtain ⟨h, g, d, t, os⟩ := s
  exact fd_hit X hbo rfl rfl esOf_keys (by rw [esOf_find, hf]; rfl) hq
theorem bk_missU (X : (hd.heap_1 w.params).In hb) (T : Top topProg loose mean mg mb hb) (S : hb.StaysIn s.heap) (hroom : A.depth < 890) (hh : A.handled = none) (hsm : (b == sysModules) = false)
    (hbo : s.heap.get? b = some (bookObj dx lam (esOf w its) ep)) (hbb : hb.get? b = none) (hdx : s.heap.get? dx = some emptyDict) (hz : its.length ≤ 1000) (hf : its.find? (fun p => decide (x = p.1)) = none)
    (hlam : LamAt s.heap lam n) (hn : s.heap.get? n = some (listOf xs c)) (hb0 : hb.get? n = none) (hsz : xs.size ≤ 1000)
    (k : ∀ h' tk a t, Kp [b, n] s.heap h' → h'.get? n = some (listOf (xs.push (.int xs.size t)) (c + 1)) → s.heap.get? a = none → h'.get? a = some (listOf #[] 0) →
      h'.get? b = some (bookObj dx lam (esOf w (its ++ [(x, tx, a)])) (ep + 1)) → Q (.ref a) { s with heap := h', toks := tk })
    (hs : subscripted slice false (.ref b) (.str x tx) = operate ops (getItem (.ref b) (.str x tx))) :
    wpAny (model Challenge.rw_mq0106_01.row.prog w) A (subscriptTail value slice (.ref b) (.str x tx)) Q E s := by
  have Xs := X.keeps S
  refine bk_tail Xs hbo rfl ?_ hs
  obtain ⟨h, g, d, t, os⟩ := s
  refine fd_miss Xs hbo rfl rfl esOf_keys (by rw [esOf_find, hf]; rfl) hsm fun A' e1 e2 e3 => ?_
  refine missU (s := ⟨h, g, d, t + 1, os⟩) X T S (by rw [e1]; omega) (e2.trans hh) hbo hbb hdx esOf_keys (by rw [esOf_find, hf]; rfl) hsm (by rw [esOf_size]; exact hz) hlam hn hb0 hsz fun h' tk a t' kp hn' fr ha hb' => ?_
  exact k h' tk a t' kp hn' fr ha (by rw [← esOf_push]; exact hb')
theorem bk_missF (X : (hd.heap_1 w.params).In hb) (T : Top topProg loose mean mg mb hb) (S : hb.StaysIn s.heap) (hroom : A.depth < 890) (hh : A.handled = none) (hsm : (b == sysModules) = false)
    (hbo : s.heap.get? b = some (bookObj dx lam (esOf w its) ep)) (hbb : hb.get? b = none) (hdx : s.heap.get? dx = some (frozenDict w fz tk')) (hfz : FrzAt s.heap fz b) (hf : its.find? (fun p => decide (x = p.1)) = none)
    (hlam : LamAt s.heap lam n) (hn : s.heap.get? n = some (listOf xs c)) (hb0 : hb.get? n = none) (hsz : xs.size ≤ 1000)
    (k : ∀ h' tk a t, Kp [n] s.heap h' → h'.get? n = some (listOf (xs.push (.int xs.size t)) (c + 1)) → s.heap.get? a = none → h'.get? a = some (listOf #[] 0) → Q (.ref a) { s with heap := h', toks := tk })
    (hs : subscripted slice false (.ref b) (.str x tx) = operate ops (getItem (.ref b) (.str x tx))) :
    wpAny (model Challenge.rw_mq0106_01.row.prog w) A (subscriptTail value slice (.ref b) (.str x tx)) Q E s := by
  have Xs := X.keeps S
  refine bk_tail Xs hbo rfl ?_ hs
  obtain ⟨h, g, d, t, os⟩ := s
  refine fd_miss Xs hbo rfl rfl esOf_keys (by rw [esOf_find, hf]; rfl) hsm fun A' e1 e2 e3 => ?_
  refine missF (s := ⟨h, g, d, t + 1, os⟩) X T S (by rw [e1]; omega) (e2.trans hh) hbo hbb hdx hfz hlam hn hb0 hsz fun h' tk a t' kp hn' fr ha => ?_
  exact k h' tk a t' kp hn' fr ha
end
end
theorem off_X1 : True := by
  w_top off
  k_with_none
  trivial
-- X1
section
open PySem PySem.W PyProof.Rows PySem.Calls
noncomputable def frs (l : List Env) : List Addr := l.filterMap (·.frame)
/-- the frames further out stand in the base -/
noncomputable def Outs (g : Heap) (outer : List Env) : Prop := ∀ env ∈ outer, env.scope.kind ≠ .module ∧ ∃ b o, env.frame = some b ∧ g.get? b = some o ∧ ∃ es ep, o.data = .dict es ep
theorem Outs.funs {g h : Heap} {as : List Addr} : ∀ {outer : List Env}, Outs g outer → (∀ b o, g.get? b = some o → h.get? b = some o) → (∀ env ∈ outer, ∀ a, env.frame = some a → a ∈ as) → h.FunFrames (hideAll h as) outer
  | [], _, _, _ => trivial
  | env :: r, O, k, i => by
    obtain ⟨hk, b, o, hf, hb, es, ep, hd⟩ := O env (.head _)
    exact ⟨hk, ⟨b, o, hf, hideAll_none _ (i env (.head _) b hf), k _ _ hb, fun vs q => by rw [hd] at q; cases q⟩, Outs.funs (fun e he => O e (.tail _ he)) k fun e he => i e (.tail _ he)⟩
theorem Outs.turn {g g' : Heap} {fs : List Addr} {outer : List Env} (O : Outs g outer) (T : KtsTurn fs g g') : Outs g' outer := fun env he => by
  obtain ⟨hk, b, o, hf, hb, hd⟩ := O env he
  obtain ⟨sl, e⟩ := T.up hb
  exact ⟨hk, b, _, hf, e, hd⟩
theorem Outs.atD {g : Heap} {outer : List Env} (O : Outs g outer) : ∀ b ∈ frs outer, ∃ o, g.get? b = some o ∧ ∃ es ep, o.data = .dict es ep := fun b hb => by
  obtain ⟨env, he, hf⟩ := List.mem_filterMap.mp hb
  obtain ⟨_, b', o, hf', hb', d⟩ := O env he
  obtain rfl : b = b' := by rw [hf] at hf'; exact Option.some.inj hf'
  exact ⟨o, hb', d⟩
theorem Outs.at {g : Heap} {outer : List Env} (O : Outs g outer) : ∀ b ∈ frs outer, ∃ o, g.get? b = some o := fun b hb => let ⟨o, e, _⟩ := O.atD b hb; ⟨o, e⟩
theorem Outs.keeps {g g' : Heap} {outer : List Env} (O : Outs g outer) (k : ∀ b o, g.get? b = some o → g'.get? b = some o) : Outs g' outer := fun env he => by
  obtain ⟨hk, b, o, hf, hb, d⟩ := O env he
  exact ⟨hk, b, o, hf, k _ _ hb, d⟩
theorem Outs.notList {g : Heap} {outer : List Env} (O : Outs g outer) {l : Addr} {xs : Array Value} {n : Nat} (h : g.get? l = some (listOf xs n)) : l ∉ frs outer := fun q => by
  obtain ⟨o, e, es, ep, d⟩ := O.atD l q
  rw [h] at e; cases e; cases d
/-- all but the frames' slots stands as it stood -/
noncomputable def KpU (fs : List Addr) (h h' : Heap) : Prop := ∀ a o, h.get? a = some o → (a ∉ fs → h'.get? a = some o) ∧ ∃ sl, h'.get? a = some { o with slots := sl }
theorem KpU.of_turn {fs : List Addr} {h g g' h' : Heap} (k : ∀ a o, h.get? a = some o → g.get? a = some o) (T : KtsTurn fs g g') (k' : ∀ a o, g'.get? a = some o → h'.get? a = some o) : KpU fs h h' := fun a o e =>
  ⟨fun n => k' _ _ (T.other a o (k a o e) n), let ⟨sl, q⟩ := T.up (k a o e); ⟨sl, k' _ _ q⟩⟩
theorem stays_turn {hb g g' : Heap} {fs : List Addr} (S : hb.StaysIn g) (T : KtsTurn fs g g') (c : ∀ b ∈ fs, hb.get? b = none) : hb.StaysIn g' := fun a o e =>
  T.other a o (S a o e) fun q => by rw [c a q] at e; cases e
/-- the callers' frames, while a function runs -/
structure Stk (A : Around) (hb h : Heap) (outer : List Env) : Prop where
  stack : A.frames = some outer
  outs : Outs h outer
  clear : ∀ b ∈ frs outer, hb.get? b = none
theorem fr_none {g h : Heap} {L : Addr} {m : Str → Option Value} (F : Fr g L h m) : g.get? L = none := by
  cases q : g.get? L with
  | none => rfl
  | some o => exact absurd (Heap.lt_size q) (Nat.not_lt.mpr F.above)
theorem Stk.push {A : Around} {hb g h : Heap} {L : Addr} {m : Str → Option Value} {outer : List Env} {env : Env} (K : Stk A hb g outer) (F : Fr g L h m) (S : hb.StaysIn g) (hf : env.frame = some L) (hk : env.scope.kind ≠ .module) : Stk (A.deeper env) hb h (env :: outer) := by
  refine ⟨Around.frames_deeper K.stack, fun e he => ?_, fun b hm => ?_⟩
  · rcases List.mem_cons.mp he with rfl | he
    · obtain ⟨oL, es, ep, hL, hLd, _⟩ := F.ns
      exact ⟨hk, L, oL, hf, hL, es, ep, hLd⟩
    · exact K.outs.keeps F.keep e he
  · have hm' : b ∈ L :: frs outer := by unfold frs at hm; rw [List.filterMap_cons, hf] at hm; exact hm
    rcases List.mem_cons.mp hm' with rfl | hm'
    · cases q : hb.get? b with
      | none => rfl
      | some o => have := S b o q; rw [fr_none F] at this; cases this
    · exact K.clear b hm'
structure ExcObj (X : String) (T : Addr) (oe : Obj) : Prop where
  cls : oe.cls = .type X
  flds : ∃ vs, oe.data = .fields vs ∧ vs[1]? = some (.ref T)
structure TbObj (fl : Value) (oT : Obj) : Prop where
  flds : ∃ ts, oT.data = .fields ts ∧ ts[3]? = some fl
section
variable {M : Model} {A : Around} {E : Value → Shared → Prop} {s : Shared} {g h : Heap} {L e : Addr} {m : Str → Option Value} {news : List (Addr × Obj)} {env : Env} {outer : List Env}
/-- what a heap's turn in the frames' slots and in e alone leaves -/
theorem turn_to {e' : Addr} {h' : Heap} (O : Outs g outer) (F : Fr g L h m) (hnew : h.get? e' = none)
    (other : ∀ b o, b ∉ L :: frs outer → b ≠ e' → h.get? b = some o → h'.get? b = some o)
    (frm : ∀ b o, b ≠ e' → h.get? b = some o → ∃ sl, h'.get? b = some { o with slots := sl }) :
    ∃ g', KtsTurn (frs outer) g g' ∧ Fr g' L h' m ∧ ∀ {nw}, News g L h nw → News g' L h' nw := by
  have ge : ∀ b o, g.get? b = some o → b ≠ e' := fun b o q z => by have := F.keep b o q; rw [z, hnew] at this; cases this
  have gL : ∀ b o, g.get? b = some o → b ≠ L := fun b o q z => by rw [z, fr_none F] at q; cases q
  obtain ⟨KT, hk⟩ := kts_turn_at (h := h') O.at (fun b o q n => other b o (fun z => (List.mem_cons.mp z).elim (gL b o q) n) (ge b o q) (F.keep b o q)) (fun b o q _ => frm b o (ge b o q) (F.keep b o q))
  refine ⟨_, KT, ⟨?_, hk, by rw [KT.size]; exact F.above⟩, fun N p hp => ⟨?_, (N p hp).2.1, KT.none_ _ (N p hp).2.2⟩⟩
  · obtain ⟨oL, es, ep, hL, hLd, r⟩ := F.ns
    obtain ⟨sl, hs⟩ := frm L oL (fun z => by rw [z, hnew] at hL; cases hL) hL
    exact ⟨_, es, ep, hs, hLd, r⟩
  · refine other _ _ (fun z => ?_) (fun z => by have := (N p hp).1; rw [z, hnew] at this; cases this) (N p hp).1
    rcases List.mem_cons.mp z with z | z
    · exact (N p hp).2.1 z
    · obtain ⟨o, q⟩ := O.at _ z
      rw [(N p hp).2.2] at q; cases q
theorem note_new {oe : Obj} {vs : Array Value} {Q : Unit → Shared → Prop} (hfr : A.frames = some (env :: outer)) (hf : env.frame = some L) (hk : env.scope.kind ≠ .module) (O : Outs g outer) (F : Fr g L h m) (N : News g L h news)
    (hkeep : ∀ b o, h.get? b = some o → s.heap.get? b = some o) (hnew : h.get? e = none) (he : s.heap.get? e = some oe) (hd : oe.data = .fields vs) (h1 : vs[1]? = some .none)
    (k : ∀ h' g' T oT, KtsTurn (frs outer) g g' → Fr g' L h' m → News g' L h' ((e, oe.mapFields (·.setIfInBounds 1 (.ref T))) :: (T, oT) :: news) → AllNe T ((e, oe.mapFields (·.setIfInBounds 1 (.ref T))) :: news) → TbObj (rawInt L) oT → Q () { s with heap := h' }) :
    wpAny M A (noteFrame (.ref e) env) Q E s := by
  obtain ⟨oL, es, ep, hL, hLd, hLr⟩ := id F.ns
  have hl : s.heap.FunFrames (hideAll s.heap (frs (env :: outer))) (env :: outer) := by
    refine ⟨hk, ⟨L, oL, hf, hideAll_none _ (List.mem_filterMap.mpr ⟨env, .head _, hf⟩), hkeep _ _ hL, fun vs q => by rw [hLd] at q; cases q⟩, Outs.funs O (fun b o q => hkeep _ _ (F.keep b o q)) fun e he a ha => List.mem_filterMap.mpr ⟨e, .tail _ he, ha⟩⟩
  unfold noteFrame
  simp only [hf]
  refine wpAny_bind (wpAny_field he hd h1 ?_)
  rw [if_neg (by decide)]
  have hene : e ∉ (env :: outer).filterMap (·.frame) := fun hm => by
    obtain ⟨_, o, ho, hnf⟩ := hl.mem hm
    rw [he] at ho; injection ho with ho; subst ho; exact hnf vs hd
  refine wpAny_bind (wpAny_frameOf_fun hfr hl hf fun h₁ hs₁ => ?_)
  refine wpAny_bind (wpAny_entryPlaceOf fun pl hpl => ?_)
  unfold EntryCells.newEntry newFields
  refine wpAny_bind (wpAny_newObj_type ?_ (hpl.sizeOk5 _ _ _ _ _))
  have he₁ : h₁.get? e = some oe := (hs₁.2.1 e hene).trans he
  have hsz : 1 < vs.size := (Array.getElem?_eq_some_iff.mp h1).1
  generalize hob : ({ cls := .type "traceback", dict := none, data := .fields ([Value.none, .ref L, .none, rawInt L, .none] ++ (if pl.isEmpty then List.replicate 6 Value.none else pl)).toArray } : Obj) = ob
  have he₂ := Heap.get?_push_of_some (h := h₁) ob he₁
  refine wpAny_setField he₂ hd hsz ?_
  have hTe : h₁.objs.size ≠ e := Nat.ne_of_gt (Heap.lt_size he₁)
  have hd₃ := Obj.data_mapFields hd (·.setIfInBounds 1 (Value.ref h₁.objs.size))
  have he₃ := Heap.get?_update_self (Obj.mapFields (·.setIfInBounds 1 (Value.ref h₁.objs.size))) he₂ (Obj.isFreed_of_fields hd₃)
  have hT₃ := (Heap.get?_update_other (h₁.push ob) (Obj.mapFields (·.setIfInBounds 1 (Value.ref h₁.objs.size))) (Ne.symm hTe)).trans (Heap.get?_push_size h₁ (by rw [← hob]; rfl))
  have keep : ∀ b o, b ≠ e → h₁.get? b = some o → ((h₁.push ob).update e (Obj.mapFields (·.setIfInBounds 1 (Value.ref h₁.objs.size)))).get? b = some o := fun b o hbe hb => by
    rw [Heap.get?_update_other _ _ (Ne.symm hbe)]
    exact Heap.get?_push_of_some _ hb
  have hfs : (env :: outer).filterMap (·.frame) = L :: frs outer := by rw [List.filterMap_cons, hf]; rfl
  obtain ⟨g', KT, F', N'⟩ := turn_to (h' := (h₁.push ob).update e (Obj.mapFields (·.setIfInBounds 1 (Value.ref h₁.objs.size)))) O F hnew (fun b o n1 n2 q => keep b o n2 ((hs₁.2.1 b (by rw [hfs]; exact n1)).trans (hkeep _ _ q)))
    (fun b o n q => by
      obtain ⟨sl, hs⟩ := hs₁.2.2 b o (hkeep _ _ q)
      exact ⟨sl, keep b _ n hs⟩)
  have up : ∀ b o, h.get? b = some o → b < h₁.objs.size := fun b o q => by
    obtain ⟨sl, hs⟩ := hs₁.2.2 b o (hkeep _ _ q)
    exact Heap.lt_size hs
  have gT : g.get? h₁.objs.size = none := by
    cases q : g.get? h₁.objs.size with
    | none => rfl
    | some o => exact absurd (up _ _ (F.keep _ _ q)) (Nat.lt_irrefl _)
  have ge : g.get? e = none := by
    cases q : g.get? e with
    | none => rfl
    | some o => have := F.keep _ _ q; rw [hnew] at this; cases this
  refine k _ g' h₁.objs.size ob KT F' ?_ (allNe_of fun p hp => ?_) ⟨_, by rw [← hob], by simp⟩
  · intro p hp
    rcases List.mem_cons.mp hp with rfl | hp
    · exact ⟨he₃, (fun (q : e = L) => by
        rw [← q, hnew] at hL
        cases hL), KT.none_ _ ge⟩
    · rcases List.mem_cons.mp hp with rfl | hp
      · exact ⟨hT₃, Nat.ne_of_gt (up _ _ hL), KT.none_ _ gT⟩
      · exact N' N p hp
  · rcases List.mem_cons.mp hp with rfl | hp
    · exact Ne.symm hTe
    · exact Nat.ne_of_lt (up _ _ (N p hp).1)
variable {T : Addr} {oe oT : Obj} {fl : Value} {X : String}
theorem note_again {Q : Unit → Shared → Prop} (hf : env.frame = some L) (N : News g L s.heap ((e, oe) :: (T, oT) :: news)) (xe : ExcObj X T oe) (xt : TbObj (rawInt L) oT) (k : Q () s) : wpAny M A (noteFrame (.ref e) env) Q E s := by
  obtain ⟨vs, hd, h1⟩ := xe.flds
  obtain ⟨ts, hdt, h3⟩ := xt.flds
  exact wpAny_noteFrame_inFlight hf (News.get N (.head _)) hd h1 (News.get N (.tail _ (.head _))) hdt h3 k
theorem flight_to {fr : Option Addr} {Q : Unit → Shared → Prop} (F : Fr g L s.heap m) (N : News g L s.heap ((e, oe) :: (T, oT) :: news)) (ne : AllNe T ((e, oe) :: news)) (xe : ExcObj X T oe) (xt : TbObj fl oT)
    (k : ∀ h' oT', Fr g L h' m → News g L h' ((e, oe) :: (T, oT') :: news) → TbObj (fr.elim .none fun f => rawInt f) oT' → Q () { s with heap := h' }) : wpAny M A (setFlight (.ref e) fr) Q E s := by
  obtain ⟨vs, hd, h1⟩ := xe.flds
  obtain ⟨ts, hdt, h3⟩ := xt.flds
  have he := News.get N (.head _)
  have hT := News.get N (.tail _ (.head _))
  have hsz : 3 < ts.size := (Array.getElem?_eq_some_iff.mp h3).1
  have hTL : T ≠ L := (N _ (.tail _ (.head _))).2.1
  have hTg : g.get? T = none := (N _ (.tail _ (.head _))).2.2
  unfold setFlight
  refine wpAny_bind (wpAny_field he hd h1 ?_)
  rw [if_pos (show (Value.ref T != Value.none) = true from by simp)]
  refine wpAny_setField hT hdt hsz ?_
  have other : ∀ b, b ≠ T → (s.heap.update T (Obj.mapFields (·.setIfInBounds 3 (fr.elim .none fun f => rawInt f)))).get? b = s.heap.get? b := fun b hb => Heap.get?_update_other _ _ (Ne.symm hb)
  refine k _ (oT.mapFields (·.setIfInBounds 3 (fr.elim .none fun f => rawInt f))) ⟨?_, fun b o q => (other b fun z => by rw [z, hTg] at q; cases q).trans (F.keep b o q), F.above⟩ ?_ ⟨_, Obj.data_mapFields hdt _, by simp [hsz]⟩
  · obtain ⟨oL, es, ep, hL, r⟩ := F.ns
    exact ⟨oL, es, ep, (other L hTL.symm).trans hL, r⟩
  · intro p hp
    rcases List.mem_cons.mp hp with rfl | hp
    · exact ⟨(other _ ne.1).trans (N _ (.head _)).1, (N _ (.head _)).2⟩
    · rcases List.mem_cons.mp hp with rfl | hp
      · exact ⟨Heap.get?_update_self _ hT (Obj.isFreed_of_fields (Obj.data_mapFields hdt _)), hTL, hTg⟩
      · exact ⟨(other _ (allNe_mem ne.2 p hp)).trans (N _ (.tail _ (.tail _ hp))).1, (N _ (.tail _ (.tail _ hp))).2⟩
theorem pass_on {α : Type} {what : String} {Q : α → Shared → Prop} (hf : env.frame = some L) (F : Fr g L s.heap m) (N : News g L s.heap ((e, oe) :: (T, oT) :: news)) (ne : AllNe T ((e, oe) :: news)) (xe : ExcObj X T oe) (xt : TbObj fl oT)
    (k : ∀ h' oT', Fr g L h' m → News g L h' ((e, oe) :: (T, oT') :: news) → TbObj (rawInt L) oT' → E (.ref e) { s with heap := h' }) : wpAny M A (PySem.passOn what (.ref e) env : Sem α) Q E s := by
  obtain ⟨vs, hd, h1⟩ := id xe.flds
  unfold PySem.passOn
  refine wpAny_bind (wpAny_field (News.get N (.head _)) hd h1 ?_)
  rw [if_neg (show ¬ ((Value.ref T == Value.none) = true) from by simp)]
  rw [hf]
  exact wpAny_bind (flight_to F N ne xe xt fun h' oT' F' N' x' => wpAny_throw (k h' oT' F' N' x'))
/-- a call that turned the frames' slots -/
theorem turn_call {h' : Heap} (O : Outs g outer) (F : Fr g L h m) (kp : KpU (L :: frs outer) h h') : ∃ g', KtsTurn (frs outer) g g' ∧ Fr g' L h' m ∧ ∀ {nw}, News g L h nw → News g' L h' nw :=
  turn_to (e' := h.objs.size) O F (Heap.get?_none_of_le (Nat.le_refl _)) (fun b o n _ q => (kp b o q).1 n) fun b o _ q => (kp b o q).2
end
end
theorem off_X2 : True := by
  w_top off
  k_with_none
  trivial
-- X2
section
open PySem PySem.W PyProof.Rows PySem.Calls
theorem entry_unchain : entryFor table "proto.unchain" = some Builtin.«proto.unchain» := entryFor_of_tree (by kernel_rfl)
structure RawExc (h h' : Heap) (e : Addr) (cls : String) : Prop where
  keeps : ∀ b o, h.get? b = some o → h'.get? b = some o
  new : h.get? e = none
  there : ∃ oe vs, h'.get? e = some oe ∧ oe.cls = .type cls ∧ oe.data = .fields vs ∧ vs[1]? = some .none
theorem RawExc.of {h h' : Heap} {e : Addr} {cls : String} (x : Heap.NewExc h h' e cls) : RawExc h h' e cls := by
  obtain ⟨oe, t, he, hc, hd⟩ := x.there
  exact ⟨x.keeps, x.new, oe, _, he, hc, hd, rfl⟩
section
variable {α : Type} {prog : Program} {w : World} {A : Around} {E : Value → Shared → Prop} {s : Shared} {b : Addr} {ob : Obj} {ws : Array Value}
theorem raiseWords_ctx {cls msg : String} {Q : α → Shared → Prop} (hp : PlainExc cls) (hh : A.handled = some (.ref b)) (hb : s.heap.get? b = some ob) (hd : ob.data = .fields ws) (h2 : ws[2]? = some .none)
    (h : ∀ h' tk e, RawExc s.heap h' e cls → E (.ref e) { s with heap := h', toks := tk }) :
    wpAny (model prog w) A (raiseErrorWords cls msg : Sem α) Q E s := by
  unfold raiseErrorWords
  refine wpAny_bind (wpAny_mkText (wpAny_bind ?_))
  unfold newExc newTuple
  refine wpAny_bind (wpAny_newObj_type ?_)
  refine wpAny_bind (m := firstArgMember _ _) (wpAny_of_eq (a := Value.none) (by simp only [firstArgMember, hp.first]; rfl) ?_)
  rw [hp.own]
  refine wpAny_newObj_type ?_
  unfold raiseNew
  refine wpAny_bind (wpAny_handled ?_)
  rw [hh]
  dsimp only
  have lt : b < s.heap.objs.size := Heap.lt_size hb
  have hne : ∀ {n : Nat}, s.heap.objs.size ≤ n → ((Value.ref b) != .ref n) = true := fun {n} q => by
    have : b ≠ n := Nat.ne_of_lt (Nat.lt_of_lt_of_le lt q)
    simpa using this
  rw [if_pos (hne (by simp))]
  have kp : ∀ c o, s.heap.get? c = some o → ((s.heap.push { cls := .type "tuple", data := .seq #[.str (Str.ofString msg) s.toks] }).push { cls := .type cls, data := .fields (#[.ref s.heap.objs.size, .none, .none, .none, .bool false, .none] ++ #[]) }).get? c = some o := fun c o q => Heap.get?_push_of_some _ (Heap.get?_push_of_some _ q)
  have nw : s.heap.get? (s.heap.push { cls := .type "tuple", data := .seq #[.str (Str.ofString msg) s.toks] }).objs.size = none := Heap.get?_none_of_le (by simp)
  have he : ((s.heap.push { cls := .type "tuple", data := .seq #[.str (Str.ofString msg) s.toks] }).push { cls := .type cls, data := .fields (#[.ref s.heap.objs.size, .none, .none, .none, .bool false, .none] ++ #[]) }).get? (s.heap.push { cls := .type "tuple", data := .seq #[.str (Str.ofString msg) s.toks] }).objs.size = some { cls := .type cls, data := .fields (#[.ref s.heap.objs.size, .none, .none, .none, .bool false, .none] ++ #[]) } := Heap.get?_push_size _ rfl
  refine wpAny_bind (wpAny_holding (wpAny_runValue (codeAny_builtin entry_unchain ?_)))
  refine wpAny_bind (wpAny_field (kp _ _ hb) hd h2 ?_)
  rw [if_pos (by decide)]
  refine wpAny_pure ?_
  refine wpAny_bind ?_
  show wpAny _ _ (setField (.ref _) 2 (.ref b)) _ _ _
  refine wpAny_setField he rfl (by simp) (wpAny_throw (h _ _ _ ⟨fun c o q => ?_, nw, ?_⟩))
  · exact (Heap.get?_update_other _ _ (fun z => by rw [← z, nw] at q; cases q)).trans (kp c o q)
  · exact ⟨_, _, Heap.get?_update_self _ he rfl, rfl, rfl, by simp⟩
theorem item_out_ctx {l : Addr} {items : Array Value} {j : Nat} {k : Int} {t : Tok} {Q : Value → Shared → Prop} (hh : A.handled = some (.ref b)) (hb : s.heap.get? b = some ob) (hd : ob.data = .fields ws) (h2 : ws[2]? = some .none) (hl : s.heap.IsList l items)
    (hout : items.size ≤ j) (hhi : k < 2 ^ 63) (hkj : k = Int.ofNat j) (hE : ∀ h' tk e, RawExc s.heap h' e "IndexError" → E (.ref e) { s with heap := h', toks := tk }) :
    wpAny (model prog w) A (getItem (.ref l) (.int k t)) Q E s := by
  obtain ⟨o, ho, hc, ne, hdl⟩ := id hl
  unfold getItem
  try with_reducible refine wpAny_holding ?_
  first | refine wpAny_bind (wpAny_pure ?_) | skip
  refine wpAny_bind (wpAny_sequenceKey hl.typeIs (by decide) ?_)
  refine wpAny_bind (wpAny_callSpecial?_slot (name := Str.ofString "__getitem__") hl.typeIs slot_list_getitem (wpAny_call_entry slot_list_getitem hl.typeIs entry_list_getitem ?_ (args_list_getitem _ _)))
  show wpAny _ _ (Builtin.List.listSubscript? (.int k t) >>= _) _ _ s
  refine wpAny_bind (wpAny_listSubscript_int (fitsIndex_both (by rw [hkj]; simp only [Int.ofNat_eq_natCast]; omega) hhi) ?_)
  clear hhi
  subst hkj
  show wpAny _ _ ((seqItemAt l j >>= fun r => pure (r.map (j, ·))) >>= _) _ _ s
  refine wpAny_bind (wpAny_bind (wpAny_seqItemAt ho hdl (wpAny_pure ?_)))
  rw [Array.getElem?_eq_none hout]
  exact wpAny_bind (wpAny_rule (wpAny_bind (raiseWords_ctx plainExc_IndexError (b := b) hh hb hd h2 hE)))
theorem tail_out_ctx {value slice : PySem.Expr} {l : Addr} {items : Array Value} {k : Int} {u : Tok} {Q : Value → Shared → Prop} (hh : A.handled = some (.ref b)) (hb : s.heap.get? b = some ob) (hd : ob.data = .fields ws) (h2 : ws[2]? = some .none) (hl : s.heap.IsList l items)
    (hout : (items.size : Int) ≤ k) (hhi : k < 2 ^ 63) (hE : ∀ h' tk e, RawExc s.heap h' e "IndexError" → E (.ref e) { s with heap := h', toks := tk })
    (hs : subscripted slice false (.ref l) (.int k u) = operate [.ref l, .int k u] (getItem (.ref l) (.int k u)) := by with_unfolding_all rfl) :
    wpAny (model prog w) A (subscriptTail value slice (.ref l) (.int k u)) Q E s :=
  tail_any hl.typeIs slot_list_getitem.lookup (item_out_ctx (j := k.toNat) hh hb hd h2 hl (by omega) hhi (by simp only [Int.ofNat_eq_natCast]; omega) hE) hs
theorem tail_out {value slice : PySem.Expr} {l : Addr} {items : Array Value} {k : Int} {u : Tok} {Q : Value → Shared → Prop} (hh : A.handled = none) (hl : s.heap.IsList l items)
    (hout : (items.size : Int) ≤ k) (hhi : k < 2 ^ 63) (hE : ∀ h' tk e, Heap.NewExc s.heap h' e "IndexError" → E (.ref e) { s with heap := h', toks := tk })
    (hs : subscripted slice false (.ref l) (.int k u) = operate [.ref l, .int k u] (getItem (.ref l) (.int k u)) := by with_unfolding_all rfl) :
    wpAny (model prog w) A (subscriptTail value slice (.ref l) (.int k u)) Q E s :=
  item_outK hh hl (.inr hout) (by omega) hhi hE hs
end
section
variable {prog : Program} {w : World} {A₀ : Around} {E : Value → Shared → Prop} {s : Shared} {g : Heap} {L a e T : Addr} {m : Str → Option Value} {name : Str} {scope : Scope} {cd : Value} {oe oT : Obj} {fl : Value} {news : List (Addr × Obj)}
  {b₀ : Stmt} {suite : List Stmt} {pos np : Pos} {rest : List ExceptHandler} {Q : Flow → Shared → Prop} {p : Program} {loose : List Str} {mg mb : Str → Option Value} {x : Str} {X T' : String}
/-- «setFlight; handleBy» at a clause that takes it -/
theorem caught_by (F : Fr g L s.heap m) (N : News g L s.heap ((e, oe) :: (T, oT) :: news)) (ne : AllNe T ((e, oe) :: news)) (xe : ExcObj X T oe) (xt : TbObj fl oT) (TT : TopRead p loose mg mb g) (hv : bootBuiltins x = some (.type T'))
    (hexc : isSubtype (.type T') (.type "BaseException") = pure true) (hnt : isSubtype (.type ((Manifest.find? T').elim "type" fun y => y.metatype)) (.type "tuple") = pure false) (hsub : isSubtype (.type X) (.type T') = pure true)
    (k : ∀ h' oT', Fr g L h' m → News g L h' ((e, oe) :: (T, oT') :: news) → TbObj .none oT' →
      wpAny (model prog w) ((A₀.deeper (envOf name scope L a cd)).mark (some (.ref e))) (execs (b₀ :: suite) (envOf name scope L a cd)) Q
        (notedBy (model prog w) ((A₀.deeper (envOf name scope L a cd)).mark (some (.ref e))) (envOf name scope L a cd) (cameBackBy (model prog w) (A₀.deeper (envOf name scope L a cd)) (envOf name scope L a cd) E)) { s with heap := h' })
    (h1 : x ∉ startupNames := by decide +kernel) (h2 : x ∉ loose := by decide +kernel) (h3 : x ∉ (recsOf p).map (·.name) := by decide +kernel) (h4 : x ∉ (litsOf p).map (·.1) := by decide +kernel) (h4c : x ∉ (clssOf p loose).map (·.name) := by decide +kernel) (hn : x ≠ "__name__" := by decide +kernel)
    (hk : scope.kind = .function := by rfl) (hx : (envOf name scope L a cd).kindOf x = some .globalImplicit := by rfl) (hd : (x == ("__debug__" : Str)) = false := by decide) :
    wpAny (model prog w) (A₀.deeper (envOf name scope L a cd)) (setFlight (.ref e) none) (fun _ s₃ =>
        wpAny (model prog w) (A₀.deeper (envOf name scope L a cd)) (handleBy (.ref e) (envOf name scope L a cd) (.ExceptHandler (some (.Name x np)) none (b₀ :: suite) pos :: rest)) Q E s₃) E s := by
  refine flight_to F N ne xe xt fun h' oT' F' N' xt' => ?_
  refine wpAny_handleBy_builtin (X := X) (T := T') (b := true) hexc hnt hsub (ld_builtin_at F' TT.g (TT.free x h1 h2 h3 h4 h4c) TT.b ((TT.builtins x hn).trans hv) ⟨rfl, ⟨oe, N'.get (.head _), xe.cls⟩, ?_⟩ hk hx hd)
  exact flight_to F' N' ne xe xt' fun h'' oT'' F'' N'' xt'' => k h'' oT'' F'' N'' xt''
end
/-- an exception that was raised here, or that came here, in the own frame -/
noncomputable def OwnExc (fs : List Addr) (g : Heap) (L : Addr) (m : Str → Option Value) (news : List (Addr × Obj)) (e : Addr) (X : String) (h' : Heap) : Prop :=
  ∃ g₂, KtsTurn fs g g₂ ∧ ((∃ h, Fr g₂ L h m ∧ News g₂ L h news ∧ RawExc h h' e X) ∨
    ∃ T oe oT, Fr g₂ L h' m ∧ News g₂ L h' ((e, oe) :: (T, oT) :: news) ∧ AllNe T ((e, oe) :: news) ∧ ExcObj X T oe ∧ TbObj (rawInt L) oT)
section
variable {M : Model} {A : Around} {E : Value → Shared → Prop} {s : Shared} {g h : Heap} {L e : Addr} {m : Str → Option Value} {news : List (Addr × Obj)} {env : Env} {outer : List Env} {X : String}
theorem raw_note {Q : Unit → Shared → Prop} (hfr : A.frames = some (env :: outer)) (hf : env.frame = some L) (hk : env.scope.kind ≠ .module) (O : Outs g outer) (F : Fr g L h m) (N : News g L h news) (hx : Heap.NewExc h s.heap e X)
    (k : ∀ h' g' T oe oT ws, KtsTurn (frs outer) g g' → Fr g' L h' m → News g' L h' ((e, oe) :: (T, oT) :: news) → AllNe T ((e, oe) :: news) → ExcObj X T oe → TbObj (rawInt L) oT → oe.data = .fields ws → ws[2]? = some .none → Q () { s with heap := h' }) :
    wpAny M A (noteFrame (.ref e) env) Q E s := by
  obtain ⟨oe, t, he, hc, hd⟩ := hx.there
  refine note_new hfr hf hk O F N hx.keeps hx.new he hd rfl fun h' g' T oT KT F' N' ne xt => ?_
  have hd' := Obj.data_mapFields hd (·.setIfInBounds 1 (Value.ref T))
  exact k h' g' T _ oT _ KT F' N' ne ⟨(Obj.cls_mapFields _ _).trans hc, _, hd', by simp⟩ xt hd' (by simp)
theorem noted_any {Q : Unit → Shared → Prop} (hfr : A.frames = some (env :: outer)) (hf : env.frame = some L) (hk : env.scope.kind ≠ .module) (O : Outs g outer) (x : OwnExc (frs outer) g L m news e X s.heap)
    (k : ∀ h' g' T oe oT, KtsTurn (frs outer) g g' → Fr g' L h' m → News g' L h' ((e, oe) :: (T, oT) :: news) → AllNe T ((e, oe) :: news) → ExcObj X T oe → TbObj (rawInt L) oT → Q () { s with heap := h' }) :
    wpAny M A (noteFrame (.ref e) env) Q E s := by
  obtain ⟨g₂, KT, ⟨h, F, N, hx⟩ | ⟨T, oe, oT, F, N, ne, xe, xt⟩⟩ := x
  · obtain ⟨oe, vs, he, hc, hd, h1⟩ := hx.there
    have hsz : 1 < vs.size := (Array.getElem?_eq_some_iff.mp h1).1
    exact note_new hfr hf hk (O.turn KT) F N hx.keeps hx.new he hd h1 fun h' g' T oT KT' F' N' ne xt =>
      k h' g' T _ oT (KT.trans KT') F' N' ne ⟨(Obj.cls_mapFields _ _).trans hc, _, Obj.data_mapFields hd _, by simp [hsz]⟩ xt
  · exact note_again hf N xe xt (k _ g₂ T oe oT KT F N ne xe xt)
theorem split_E {α : Type} {t : Sem α} {Q : α → Shared → Prop} (Xs : Value → Shared → Prop) (hX : ∀ e s', Xs e s' → E e s') (h : (∀ e s', Xs e s' → E e s') → wpAny M A t Q E s) : wpAny M A t Q E s := h hX
end
end
theorem off_M9 : True := by
  w_top off
  k_with_none
  trivial
-- M9
section
open PySem PySem.W PyProof.Rows PySem.Calls
theorem kw_M9_1 : True := by
  k_with_none
  k_with "mytree" => ((first | (with_reducible show wpAny _ _ _ _ _ _) | (with_reducible show ite _ _ _)); (fail_if_success (with_reducible show wpAny _ _ (eval (PySem.Expr.ListComp _ _ _ _) _) _ _ _)); (fail_if_success (with_reducible show wpAny _ _ (exec (PySem.Stmt.For _ _ _ _ _) _) _ _ _)); (fail_if_success (with_reducible show wpAny _ _ (exec (PySem.Stmt.While _ _ _ _) _) _ _ _)); (fail_if_success (with_reducible show wpAny _ _ (exec (PySem.Stmt.Try _ _ _ _ _) _) _ _ _)); (fail_if_success (with_reducible show wpAny _ _ (exec (PySem.Stmt.Assign _ (PySem.Expr.ListComp _ _ _ _) _) _) _ _ _)))
  k_with "mygo" => (repeat' (first | (k_unfold; (try dsimp only)) | (walk_at "mytree"; walk1) | (dsimp only; walk_at "mytree"; walk1) | fail "no step"))
  trivial
noncomputable def mrgIn (a : Int) (r : List Int → List Int × List Int) (as : List Int) : List Int → List Int × List Int
  | [] => (a :: as, [])
  | b :: bs => if a < b then (a :: (r (b :: bs)).1, (r (b :: bs)).2) else if b < a then ((mrgIn a r as bs).1, b :: (mrgIn a r as bs).2) else r bs
/-- what the two walked lists leave (by structure: a termination_by would keep the whole source text in the compiled file) -/
noncomputable def mrg : List Int → List Int → List Int × List Int
  | [] => fun bs => ([], bs)
  | a :: as => mrgIn a (mrg as) as
theorem mrg_nil {bs : List Int} : mrg [] bs = ([], bs) := rfl
theorem mrg_nil_r {as : List Int} : mrg as [] = (as, []) := by cases as <;> rfl
theorem mrg_cons {a b : Int} {as bs : List Int} : mrg (a :: as) (b :: bs) = if a < b then (a :: (mrg as (b :: bs)).1, (mrg as (b :: bs)).2) else if b < a then ((mrg (a :: as) bs).1, b :: (mrg (a :: as) bs).2) else mrg as bs := rfl
theorem mrg_ind {motive : List Int → List Int → Prop} (case1 : ∀ bs, motive [] bs) (case2 : ∀ a as, motive (a :: as) []) (case3 : ∀ a as b bs, a < b → motive as (b :: bs) → motive (a :: as) (b :: bs))
    (case4 : ∀ a as b bs, ¬ a < b → b < a → motive (a :: as) bs → motive (a :: as) (b :: bs)) (case5 : ∀ a as b bs, ¬ a < b → ¬ b < a → motive as bs → motive (a :: as) (b :: bs)) (es as : List Int) : motive es as := by
  induction es generalizing as with
  | nil => exact case1 as
  | cons a es ih =>
    induction as with
    | nil => exact case2 a es
    | cons b bs ihb =>
      by_cases h : a < b
      · exact case3 _ _ _ _ h (ih _)
      · by_cases h2 : b < a
        · exact case4 _ _ _ _ h h2 ihb
        · exact case5 _ _ _ _ h h2 (ih _)
theorem ints_at {vs : List Value} {ns : List Int} (h : IntsAre vs ns) : ∀ {i : Nat}, i < ns.length → ∃ t, vs[i]? = some (.int (ns.getD i 0) t) := by
  induction h with
  | nil => intro i hi; simp at hi
  | cons n t r ih =>
    intro i hi
    cases i with
    | zero => exact ⟨t, rfl⟩
    | succ i => simpa using ih (by simpa using hi)
theorem ints_len {vs : List Value} {ns : List Int} (h : IntsAre vs ns) : vs.length = ns.length := by
  induction h with
  | nil => rfl
  | cons n t r ih => simp [ih]
theorem ints_snoc {vs : List Value} {ns : List Int} {n : Int} {t : Tok} (h : IntsAre vs ns) : IntsAre (vs ++ [.int n t]) (ns ++ [n]) := by
  induction h with
  | nil => exact .cons _ _ .nil
  | cons n t r ih => exact .cons _ _ ih
theorem ints_append {vs ws : List Value} {ns ms : List Int} (h : IntsAre vs ns) (h' : IntsAre ws ms) : IntsAre (vs ++ ws) (ns ++ ms) := by
  induction h with
  | nil => exact h'
  | cons n t r ih => exact .cons _ _ ih
theorem drop_at {l : List Int} {i : Nat} (h : i < l.length) : l.drop i = l.getD i 0 :: l.drop (i + 1) := by
  rw [List.drop_eq_getElem_cons h]; simp [h]
theorem pw_lt {l : List Int} (s : l.Pairwise (· < ·)) {i : Nat} (h : i + 1 < l.length) : l.getD i 0 < l.getD (i + 1) 0 := by
  have := List.pairwise_iff_getElem.mp s i (i + 1) (by omega) h (by omega)
  simpa [h, show i < l.length by omega] using this
section
variable {prog : Program} {w : World} {A : Around} {E : Value → Shared → Prop} {s : Shared} {h₀ h : Heap} {L D b : Addr} {m : Str → Option Value} {news : List (Addr × Obj)} {its its2 : Array Value} {n n2 : Nat}
theorem ext_in {Q : Value → Shared → Prop} {nw : Obj → List (Addr × Obj)} (F : Fr h₀ L s.heap m) (N : News h₀ L s.heap news) (hb : (b, listOf its2 n2) ∈ news) (U : ∀ o', Upd D (listOf its n) o' news (nw o')) (hz : its.size ≤ 10000) (hz2 : its2.size ≤ 10000)
    (h : ∀ h' n', Fr h₀ L h' m → News h₀ L h' (nw (listOf (its ++ its2) n')) → Q .none { s with heap := h' }) : wpAny (model prog w) A (PySem.call (.builtin "list.extend") [.ref D, .ref b]) Q E s := by
  have hd : ¬(!its.isEmpty && Builtin.List.listTooLong (its.size + its2.size)) = true := by
    have : Builtin.List.listTooLong (its.size + its2.size) = false := by unfold Builtin.List.listTooLong; rw [sizeLine_eq]; exact decide_eq_false (by omega)
    rw [this, Bool.and_false]; exact Bool.false_ne_true
  by_cases q : its2.toList = []
  · have e0 : its2 = #[] := Array.toList_inj.mp (by rw [q])
    subst e0
    exact kxn_extend F N hb rfl (U _) hd (by rw [sizeLine_eq, Array.length_toList]; omega) (by rw [sizeLine_eq]; omega) fun h' F' N' => h h' n F' (by simpa using N')
  · refine kl_extend F N hb rfl (by simpa using q) (U _) hd (by rw [sizeLine_eq, Array.length_toList]; omega) (by rw [sizeLine_eq]; omega) fun h' F' N' => h h' (n + 1) F' ?_
    have e : (its.toList ++ its2.toList).toArray = its ++ its2 := by apply Array.toList_inj.mp; simp
    rw [e] at N'; exact N'
end
structure Sld (m : Str → Option Value) (l1 l2 M U : Addr) (es as : List Int) (i j : Nat) (xs ys : Array Value) : Prop where
  l1 : m "expected" = some (.ref l1)
  l2 : m "actual" = some (.ref l2)
  mi : ∃ t, m "i" = some (.int i t)
  mj : ∃ t, m "j" = some (.int j t)
  mM : m "missing" = some (.ref M)
  mU : m "unexpected" = some (.ref U)
  hi : i ≤ es.length
  hj : j ≤ as.length
  zx : xs.size ≤ i
  zy : ys.size ≤ j
  xs : ∃ ms, IntsAre xs.toList ms ∧ ms ++ (mrg (es.drop i) (as.drop j)).1 = (mrg es as).1
  ys : ∃ us, IntsAre ys.toList us ∧ us ++ (mrg (es.drop i) (as.drop j)).2 = (mrg es as).2
/-- what comes behind, out of sight: the walk's terms stay small -/
theorem wp_hide {α : Type} {M : Model} {A : Around} {t : Sem α} {Q : α → Shared → Prop} {E : Value → Shared → Prop} {s : Shared} (k : ∀ (Q' : α → Shared → Prop) (E' : Value → Shared → Prop), (∀ f s', Q f s' → Q' f s') → (∀ e s', E e s' → E' e s') → wpAny M A t Q' E' s) : wpAny M A t Q E s :=
  k Q E (fun _ _ x => x) (fun _ _ x => x)
/-- what stands at a turn of the outer loop -/
inductive SldI (s : Shared) (g : Heap) (L l1 l2 M U : Addr) (es as : List Int) (n : Nat) (s' : Shared) : Prop
  | mk (h : Heap) (tk : Tok) (m : Str → Option Value) (i j : Nat) (xs ys : Array Value) (cx cy : Nat) (_ : s' = ⟨h, s.gens, s.drawn, tk, s.os⟩) (_ : Fr g L h m) (_ : News g L h [(U, listOf ys cy), (M, listOf xs cx)]) (_ : Sld m l1 l2 M U es as i j xs ys) (_ : n = (es.length - i) + (as.length - j))
/-- what stands where the loop's exception is raised -/
inductive SldE (outer : List Env) (s : Shared) (g : Heap) (L l1 l2 M U : Addr) (es as : List Int) (e : Value) (s' : Shared) : Prop
  | mk (e' : Addr) (h' : Heap) (m : Str → Option Value) (i j : Nat) (xs ys : Array Value) (cx cy : Nat) (tk : Tok) (_ : e = .ref e') (_ : s' = ⟨h', s.gens, s.drawn, tk, s.os⟩) (_ : OwnExc (frs outer) g L m [(U, listOf ys cy), (M, listOf xs cx)] e' "IndexError" h') (_ : Sld m l1 l2 M U es as i j xs ys) (_ : i = es.length ∨ j = as.length)
section
variable {w : World} {A : Around} {s : Shared} {hb : Heap} {loose : List Str} {mean : ExcName → Option Value} {mg mb : Str → Option Value} {R : Result → Shared → Prop}
variable {outer : List Env}
theorem kw_M9_2 : True := by
  k_with "eval Name" => (k_here; k_dflt (refine' nm_local ?z_F ?z_L ?z_v ?_ ?z_a ?z_b; (case z_a => rfl); (case z_b => rfl); (case z_F => k_asm); (case z_L => rfl); (case z_v => first | assumption | rfl); k_whole))
  k_with "loadName" => (k_here; k_dflt (refine' ldn ?z_F ?z_v ?_; (case z_F => k_asm); (case z_v => first | assumption | rfl)))
  k_with "subscriptTail Name Name ref int" => (k_here; k_dflt (first | (refine' item_base ?z_F ?z_l ?z_a ?z_b ?z_c ?_ ?z_e; (case z_F => k_asm); (case z_l => assumption); (case z_a => omega); (case z_b => omega); (case z_c => assumption); (case z_e => with_unfolding_all rfl)) | (refine' tail_out ?z_hh ?z_l ?z_o ?z_b ?_ ?z_e; (case z_hh => assumption); (case z_l => exact list_base (by assumption) (by assumption)); (case z_o => simp only [List.size_toArray]; omega); (case z_b => omega); (case z_e => with_unfolding_all rfl)) | (refine' tail_out_ctx ?z_hh ?z_h0 ?z_hd ?z_hw ?z_l ?z_o ?z_b ?_ ?z_e; (case z_hh => exact rfl); (case z_h0 => exact News.get (by assumption) (.head _)); (case z_hd => assumption); (case z_hw => assumption); (case z_l => exact list_base (by assumption) (by assumption)); (case z_o => simp only [List.size_toArray]; omega); (case z_b => omega); (case z_e => with_unfolding_all rfl))))
  k_with "subscriptTail Name Slice ref ref" => (k_here; k_dflt (refine' kmk_slice_ints ?z_F ?z_N ?z_l ?z_p ?z_q ?z_i ?z_m ?z_c ?_ ?z_s ?z_t ?z_z; (case z_F => k_asm); (case z_N => k_asm); (case z_l => exact list_base (by assumption) (by assumption)); (case z_p => kmk_part); (case z_q => kmk_part); (case z_i => assumption); (case z_m => exact kmk_from (by assumption) (by omega)); (case z_c => exact rfl); (case z_s => with_unfolding_all rfl); (case z_t => kmk_pure); (case z_z => simp only [List.size_toArray, sizeLine_eq]; omega)); intro _ _ _ _ _ z_l1' z_i' _ _; (try k_lt z_l1'); (have _ := ints_len z_i'); (try k_sweep))
  k_with "call builtin:list.extend" => (k_here; (with_reducible show wpAny _ _ (PySem.call (Value.builtin "list.extend") [Value.ref _, Value.ref _]) _ _ _); k_dflt (refine' ext_in ?z_F ?z_N ?z_b ?z_U ?z_y ?z_z ?_; (case z_F => k_asm); (case z_N => k_asm); (case z_b => k_mem); (case z_U => intro _; k_upd); (case z_y => omega); (case z_z => simp only [List.size_toArray]; omega)); intro _ _ _ z_N'; (try dsimp only at z_N'); (try k_sweep))
  trivial
theorem sld_spec (X : (hd.heap_1 w.params).In hb) (T : Top topProg loose mean mg mb hb) (S : hb.StaysIn s.heap) (hroom : A.depth < 940) (hh : A.handled = none) (hl1 : Str.ofString "IndexError" ∉ loose) (hl2 : Str.ofString "IndexError" ∉ (clssOf topProg loose).map (·.name)) (K : Stk A hb s.heap outer) {l1 l2 : Addr} {vs1 vs2 : List Value} {c1 c2 : Nat} {es as : List Int}
    (h1 : s.heap.get? l1 = some (listOf vs1.toArray c1)) (h2 : s.heap.get? l2 = some (listOf vs2.toArray c2)) (i1 : IntsAre vs1 es) (i2 : IntsAre vs2 as) (s1 : es.Pairwise (· < ·)) (s2 : as.Pairwise (· < ·)) (z1 : es.length ≤ 1000) (z2 : as.length ≤ 1000)
    (k : ∀ h' tk t M U us1 us2 n1 n2, KpU (frs outer) s.heap h' → s.heap.get? t = none → h'.get? t = some { cls := .type "tuple", data := .seq #[.ref M, .ref U] } → M ≠ U → M ≠ t → U ≠ t → s.heap.get? M = none → s.heap.get? U = none → h'.get? M = some (listOf us1 n1) → h'.get? U = some (listOf us2 n2) → IntsAre us1.toList (mrg es as).1 → IntsAre us2.toList (mrg es as).2 → R (.ok (.ret (.ref t))) { s with heap := h', toks := tk }) :
    codeAny (model Challenge.rw_mq0106_01.row.prog w) A (.call (.ref 213) ⟨[.ref l1, .ref l2], []⟩) R s := by
  revert X; k_fill; intro X
  refine' enter (binds := [(PySem.Str.ofString "expected", Value.ref l1), (PySem.Str.ofString "actual", Value.ref l2)]) X T S [] (by simp) ?k6 ?k7 ?k8 ?k9 ?kB ?_ ?c2 ?c3 ?c4 ?c5
  case k6 => k_is
  case k7 => k_is
  case k8 => k_room
  case k9 => exact BindsTo.of_eq rfl
  case kB => exact locs rfl
  case c2 => decide
  case c3 => exact rfl
  case c4 => exact rfl
  case c5 => exact rfl
  intro g' L' h' F' N' X' T' S' hg' hL' hl'
  (try dsimp only)
  k_fold
  clear X S
  walk_at "mygo"
  rename_i M _ _ _ tk1 U _ lt h1' F1 N1
  have e1 := hg' l1 _ (by simp) h1
  have e2 := hg' l2 _ (by simp) h2
  have O : Outs g' outer := K.outs.keeps (fun a o e => hg' a o (by simp) e)
  have len1 := ints_len i1
  have len2 := ints_len i2
  refine wpAny_While (codeAny_whileLoop (SldI s g' L' l1 l2 M U es as) ?turn (es.length + as.length) ?init)
  case init => exact ⟨_, _, _, 0, 0, _, _, _, _, rfl, F1, N1, ⟨rfl, rfl, ⟨_, rfl⟩, ⟨_, rfl⟩, rfl, rfl, by omega, by omega, by simp, by simp, ⟨[], .nil, rfl⟩, ⟨[], .nil, rfl⟩⟩, rfl⟩
  case turn =>
    clear F1 N1
    rintro n s₁ ⟨h, tk, m, i, j, xs, ys, cx, cy, rfl, F, N, Z, hn⟩
    obtain ⟨ml1, ml2, ⟨ti, mi⟩, ⟨tj, mj⟩, mM, mU, hi, hj, zx, zy, ⟨ms, ixs, hms⟩, ⟨us, iys, hus⟩⟩ := id Z
    walk_at "mygo"
    refine wp_hide fun Q' E' hq _ => ?_
    refine wpAny_Try_except ?_
    refine split_E (SldE outer s g' L' l1 l2 M U es as) ?hX (fun H => ?_)
    case hX =>
      clear F N Z mi mj ml1 ml2 mM mU
      rintro _ _ ⟨e, h, m, i, j, xs, ys, cx, cy, tk, rfl, rfl, x, Z, hend⟩
      obtain ⟨ml1, ml2, ⟨ti, mi⟩, ⟨tj, mj⟩, mM, mU, hi, hj, zx, zy, ⟨ms, ixs, hms⟩, ⟨us, iys, hus⟩⟩ := id Z
      refine noted_any (outer := outer) (Around.frames_deeper K.stack) rfl (fun q => by cases q) O x (fun h2 g2 T2 oe oT KT F2 N2 ne2 xe2 xt2 => ?_)
      have TT : Top topProg loose mean mg mb g2 := T.keeps (stays_turn S' KT K.clear)
      have f1 := KT.other _ _ e1 (O.notList e1)
      have f2 := KT.other _ _ e2 (O.notList e2)
      refine caught_by F2 N2 ne2 xe2 xt2 (by k_asm) PyProof.Rows.Boot.«IndexError» PySem.F.isExc_IndexError PySem.F.notTuple_IndexError (by rw [isSubtype_type]; kernel_rfl) ?_ (h2 := hl1) (h4c := hl2)
      intro h3 oT3 F3 N3 xt3
      have N4 := news_sub (news' := [(U, listOf ys cy), (M, listOf xs cx)]) N3 (fun p hp => .tail _ (.tail _ hp))
      have zy' : ys.size ≤ 10000 := by omega
      have zx' : xs.size ≤ 10000 := by omega
      clear F2 N2 N3
      walk_at "mygo"
      refine hq _ _ ?_
      dsimp only
      walk_at "mygo"
      rename IntsAre _ (List.drop _ es) => ia
      rename IntsAre _ (List.drop _ as) => ib
      rename Fr g2 L' _ m => Fz
      rename News g2 L' _ _ => Nz
      have fre : ∀ {a : Addr}, g2.get? a = none → s.heap.get? a = none := fun {a} q => by
        cases z : s.heap.get? a with
        | none => rfl
        | some o =>
          obtain ⟨sl, z'⟩ := KT.up (hg' a o (by simp) z)
          rw [q] at z'; cases z'
      have eM : mrg (es.drop i) (as.drop j) = (es.drop i, as.drop j) := by
        rcases hend with q | q
        · rw [q, List.drop_length, mrg_nil]
        · rw [q, List.drop_length, mrg_nil_r]
      rw [eM] at hms hus
      simp only [Int.toNat_natCast] at ia ib
      refine k _ _ _ _ _ _ _ _ _ (KpU.of_turn (fun a o q => hg' a o (by simp) q) KT Fz.keep) (fre (Nz _ (.head _)).2.2) (Nz.get (.head _)) (Nat.ne_of_lt (by omega)) (Nat.ne_of_lt (by omega)) (Nat.ne_of_lt (by omega)) (fre (Nz _ (.tail _ (.tail _ (.tail _ (.tail _ (.head _)))))).2.2) (fre (Nz _ (.tail _ (.tail _ (.tail _ (.head _))))).2.2) (Nz.get (.tail _ (.tail _ (.tail _ (.tail _ (.head _)))))) (Nz.get (.tail _ (.tail _ (.tail _ (.head _))))) ?_ ?_
      · rw [← hms]; simpa using ints_append ixs ia
      · rw [← hus]; simpa using ints_append iys ib
    by_cases ci : i < es.length
    case neg =>
      walk_at "mygo"
      intro h3 tk3 e3 x3
      exact H _ _ ⟨e3, h3, m, i, j, xs, ys, cx, cy, tk3, rfl, rfl, ⟨g', .refl, .inl ⟨h, F, N, .of x3⟩⟩, Z, .inl (by omega)⟩
    obtain ⟨te, he⟩ := ints_at i1 ci
    have he' : vs1[(i : Int).toNat]? = some (.int (es.getD i 0) te) := by simpa using he
    generalize hx : es.getD i 0 = x at he he'
    by_cases cj : j < as.length
    case neg =>
      walk_at "mygo"
      rename_i hk2 tkk _ Fk Nk
      intro h3 tk3 e3 x3
      exact H _ _ ⟨e3, h3, _, i, j, xs, ys, cx, cy, tk3, rfl, rfl, ⟨g', .refl, .inl ⟨_, Fk, Nk, .of x3⟩⟩, ⟨ml1, ml2, ⟨_, mi⟩, ⟨_, mj⟩, mM, mU, hi, hj, zx, zy, ⟨ms, ixs, hms⟩, ⟨us, iys, hus⟩⟩, .inr (by omega)⟩
    obtain ⟨ta, ha⟩ := ints_at i2 cj
    have ha' : vs2[(j : Int).toNat]? = some (.int (as.getD j 0) ta) := by simpa using ha
    generalize hy : as.getD j 0 = y at ha ha'
    have dx := drop_at ci
    have dy := drop_at cj
    rw [hx] at dx
    rw [hy] at dy
    have nx : ∀ x', i + 1 < es.length → es.getD (i + 1) 0 = x' → x < x' := fun x' q e => by have := pw_lt s1 q; rw [hx, e] at this; exact this
    have ny : ∀ y', j + 1 < as.length → as.getD (j + 1) 0 = y' → y < y' := fun y' q e => by have := pw_lt s2 q; rw [hy, e] at this; exact this
    walk_at "mygo"
    · rename_i _ _ _ _ lxy _ _ h5 F5 N5
      have em : mrg (es.drop i) (as.drop j) = (x :: (mrg (es.drop (i + 1)) (as.drop j)).1, (mrg (es.drop (i + 1)) (as.drop j)).2) := by rw [dx, dy, mrg_cons, if_pos lxy]
      rw [em] at hms hus
      have ix2 : IntsAre (xs.push (.int x te)).toList (ms ++ [x]) := by simpa using ints_snoc ixs
      refine wpAny_While (codeAny_whileLoop (fun _ s' => s' = ⟨h5, s.gens, s.drawn, tk, s.os⟩) ?_ 0 rfl)
      rintro n' s' rfl
      by_cases c2 : i + 1 < es.length
      · obtain ⟨te2, he2⟩ := ints_at i1 c2
        have he2' : vs1[((i : Int) + 1).toNat]? = some (.int (es.getD (i + 1) 0) te2) := by rw [show ((i : Int) + 1).toNat = i + 1 by omega]; exact he2
        generalize hx2 : es.getD (i + 1) 0 = x2 at he2 he2'
        have lx2 := nx _ c2 hx2
        walk_at "mygo"
        · exfalso; omega
        · refine hq _ _ ?_
          dsimp only
          walk_at "mygo"
          refine ⟨(es.length - (i + 1)) + (as.length - j), by omega, _, _, _, i + 1, j, _, _, _, _, rfl, F5, N5, ⟨ml1, ml2, ⟨_, rfl⟩, ⟨_, mj⟩, mM, mU, ci, hj, by simp; omega, zy, ⟨_, ix2, by simpa using hms⟩, ⟨us, iys, hus⟩⟩, rfl⟩
      · walk_at "mygo"
        intro h3 tk3 e3 x3
        exact PassesOwn.looking _ _ (H _ _ ⟨e3, h3, _, i + 1, j, _, _, _, _, tk3, rfl, rfl, ⟨g', .refl, .inl ⟨_, F5, N5, .of x3⟩⟩, ⟨ml1, ml2, ⟨_, rfl⟩, ⟨_, mj⟩, mM, mU, ci, hj, by simp; omega, zy, ⟨_, ix2, by simpa using hms⟩, ⟨us, iys, hus⟩⟩, .inl (by omega)⟩)
    · rename_i _ _ _ _ nxy _ lyx _ _ h5 F5 N5
      have em : mrg (es.drop i) (as.drop j) = ((mrg (es.drop i) (as.drop (j + 1))).1, y :: (mrg (es.drop i) (as.drop (j + 1))).2) := by rw [dx, dy, mrg_cons, if_neg (by omega), if_pos (by omega)]
      rw [em] at hms hus
      have iy2 : IntsAre (ys.push (.int y ta)).toList (us ++ [y]) := by simpa using ints_snoc iys
      refine wpAny_While (codeAny_whileLoop (fun _ s' => s' = ⟨h5, s.gens, s.drawn, tk, s.os⟩) ?_ 0 rfl)
      rintro n' s' rfl
      by_cases c2 : j + 1 < as.length
      · obtain ⟨te2, he2⟩ := ints_at i2 c2
        have he2' : vs2[((j : Int) + 1).toNat]? = some (.int (as.getD (j + 1) 0) te2) := by rw [show ((j : Int) + 1).toNat = j + 1 by omega]; exact he2
        generalize hx2 : as.getD (j + 1) 0 = x2 at he2 he2'
        have lx2 := ny _ c2 hx2
        walk_at "mygo"
        · exfalso; omega
        · refine hq _ _ ?_
          dsimp only
          walk_at "mygo"
          refine ⟨(es.length - i) + (as.length - (j + 1)), by omega, _, _, _, i, j + 1, _, _, _, _, rfl, F5, N5, ⟨ml1, ml2, ⟨_, mi⟩, ⟨_, rfl⟩, mM, mU, hi, cj, zx, by simp; omega, ⟨ms, ixs, hms⟩, ⟨_, iy2, by simpa using hus⟩⟩, rfl⟩
      · walk_at "mygo"
        intro h3 tk3 e3 x3
        exact PassesOwn.looking _ _ (H _ _ ⟨e3, h3, _, i, j + 1, _, _, _, _, tk3, rfl, rfl, ⟨g', .refl, .inl ⟨_, F5, N5, .of x3⟩⟩, ⟨ml1, ml2, ⟨_, mi⟩, ⟨_, rfl⟩, mM, mU, hi, cj, zx, by simp; omega, ⟨ms, ixs, hms⟩, ⟨_, iy2, by simpa using hus⟩⟩, .inr (by omega)⟩)
    · rename_i _ _ _ _ nxy nyx h5 F5 N5
      have em : mrg (es.drop i) (as.drop j) = mrg (es.drop (i + 1)) (as.drop (j + 1)) := by rw [dx, dy, mrg_cons, if_neg nxy, if_neg nyx]
      rw [em] at hms hus
      refine wpAny_Try_finally ?_
      walk_at "mygo"
      refine wpAny_While (codeAny_whileLoop (fun _ s' => s' = ⟨h5, s.gens, s.drawn, tk, s.os⟩) ?_ 0 rfl)
      rintro n' s' rfl
      by_cases c2 : i + 1 < es.length
      · obtain ⟨te2, he2⟩ := ints_at i1 c2
        have he2' : vs1[((i : Int) + 1).toNat]? = some (.int (es.getD (i + 1) 0) te2) := by rw [show ((i : Int) + 1).toNat = i + 1 by omega]; exact he2
        generalize hx2 : es.getD (i + 1) 0 = x2 at he2 he2'
        have lx2 := nx _ c2 hx2
        walk_at "mygo"
        · exfalso; omega
        · rename_i h6 F6 N6
          refine wpAny_While (codeAny_whileLoop (fun _ s' => s' = ⟨h6, s.gens, s.drawn, tk, s.os⟩) ?_ 0 rfl)
          rintro n' s' rfl
          by_cases c3 : j + 1 < as.length
          · obtain ⟨te3, he3⟩ := ints_at i2 c3
            have he3' : vs2[((j : Int) + 1).toNat]? = some (.int (as.getD (j + 1) 0) te3) := by rw [show ((j : Int) + 1).toNat = j + 1 by omega]; exact he3
            generalize hx3 : as.getD (j + 1) 0 = x3 at he3 he3'
            have lx3 := ny _ c3 hx3
            walk_at "mygo"
            · exfalso; omega
            · refine hq _ _ ?_
              dsimp only
              walk_at "mygo"
              refine ⟨(es.length - (i + 1)) + (as.length - (j + 1)), by omega, _, _, _, i + 1, j + 1, _, _, _, _, rfl, F6, N6, ⟨ml1, ml2, ⟨_, rfl⟩, ⟨_, rfl⟩, mM, mU, ci, cj, by omega, by omega, ⟨ms, ixs, hms⟩, ⟨us, iys, hus⟩⟩, rfl⟩
          · walk_at "mygo"
            intro h3 tk3 e3 x3
            exact PassesOwn.looking _ _ (PassesOwn.looking _ _ (H _ _ ⟨e3, h3, _, i + 1, j + 1, _, _, _, _, tk3, rfl, rfl, ⟨g', .refl, .inl ⟨_, F6, N6, .of x3⟩⟩, ⟨ml1, ml2, ⟨_, rfl⟩, ⟨_, rfl⟩, mM, mU, ci, cj, by omega, by omega, ⟨ms, ixs, hms⟩, ⟨us, iys, hus⟩⟩, .inr (by omega)⟩))
      · walk_at "mygo"
        intro h3 tk3 e3 x3
        refine PassesOwn.looking _ _ ?_
        refine raw_note (outer := outer) (Around.frames_deeper K.stack) rfl (fun q => by cases q) O F5 N5 x3 (fun h4 g4 T4 oe4 oT4 ws4 KT4 F4 N4 ne4 xe4 xt4 hd4 hw4 => ?_)
        refine ⟨ref_ne_byPass _, ?_⟩
        refine note_again rfl N4 xe4 xt4 ?_
        refine flight_to F4 N4 ne4 xe4 xt4 fun h6 oT6 F6 N6 xt6 => ?_
        have f1 := KT4.other _ _ e1 (O.notList e1)
        have f2 := KT4.other _ _ e2 (O.notList e2)
        clear F5 N5 F4 N4
        walk_at "mygo"
        rename_i h7 F7 N7
        refine wpAny_While (codeAny_whileLoop (fun _ s' => s' = ⟨h7, s.gens, s.drawn, tk, s.os⟩) ?_ 0 rfl)
        rintro n' s' rfl
        by_cases c3 : j + 1 < as.length
        · obtain ⟨te3, he3⟩ := ints_at i2 c3
          have he3' : vs2[((j : Int) + 1).toNat]? = some (.int (as.getD (j + 1) 0) te3) := by rw [show ((j : Int) + 1).toNat = j + 1 by omega]; exact he3
          generalize hx3 : as.getD (j + 1) 0 = x3 at he3 he3'
          have lx3 := ny _ c3 hx3
          walk_at "mygo"
          · exfalso; omega
          · dsimp only
            refine pass_on rfl F7 N7 ne4 xe4 xt6 fun h8 oT8 F8 N8 xt8 => ?_
            exact H _ _ ⟨e3, h8, _, i + 1, j + 1, _, _, _, _, _, rfl, rfl, ⟨g4, KT4, .inr ⟨T4, oe4, _, F8, N8, ne4, xe4, xt8⟩⟩, ⟨ml1, ml2, ⟨_, rfl⟩, ⟨_, rfl⟩, mM, mU, ci, cj, by omega, by omega, ⟨ms, ixs, hms⟩, ⟨us, iys, hus⟩⟩, .inl (by omega)⟩
        · walk_at "mygo"
          intro h8 tk8 e8 x8
          have N8 := news_sub (news' := [(U, listOf ys cy), (M, listOf xs cx)]) N7 (fun p hp => .tail _ (.tail _ hp))
          exact PassesOwn.looking _ _ (PassesOwnAt.looking _ _ (H _ _ ⟨e8, h8, _, i + 1, j + 1, _, _, _, _, tk8, rfl, rfl, ⟨g4, KT4, .inl ⟨_, F7, N8, x8⟩⟩, ⟨ml1, ml2, ⟨_, rfl⟩, ⟨_, rfl⟩, mM, mU, ci, cj, by omega, by omega, ⟨ms, ixs, hms⟩, ⟨us, iys, hus⟩⟩, .inl (by omega)⟩))
end
end
theorem off_M10 : True := by
  w_top off
  k_with_none
  trivial
-- M10
section
open PySem PySem.W PyProof.Rows PySem.Calls
theorem kw_M10_1 : True := by
  k_with_none
  k_with "mytree" => ((first | (with_reducible show wpAny _ _ _ _ _ _) | (with_reducible show ite _ _ _)); (fail_if_success (with_reducible show wpAny _ _ (eval (PySem.Expr.ListComp _ _ _ _) _) _ _ _)); (fail_if_success (with_reducible show wpAny _ _ (exec (PySem.Stmt.For _ _ _ _ _) _) _ _ _)); (fail_if_success (with_reducible show wpAny _ _ (exec (PySem.Stmt.While _ _ _ _) _) _ _ _)); (fail_if_success (with_reducible show wpAny _ _ (exec (PySem.Stmt.Try _ _ _ _ _) _) _ _ _)); (fail_if_success (with_reducible show wpAny _ _ (exec (PySem.Stmt.Assign _ (PySem.Expr.ListComp _ _ _ _) _) _) _ _ _)); (fail_if_success (with_reducible show wpAny _ _ (PySem.call (PySem.Value.ref 213) _) _ _ _)))
  k_with "mygo" => (repeat' (first | (k_unfold; (try dsimp only)) | (walk_at "mytree"; walk1) | (dsimp only; walk_at "mytree"; walk1) | fail "no step"))
  trivial
theorem mrg_mem {es as : List Int} (s1 : es.Pairwise (· < ·)) (s2 : as.Pairwise (· < ·)) :
    (mrg es as).1.Pairwise (· < ·) ∧ (mrg es as).2.Pairwise (· < ·) ∧ (∀ x, x ∈ (mrg es as).1 ↔ x ∈ es ∧ x ∉ as) ∧ (∀ x, x ∈ (mrg es as).2 ↔ x ∈ as ∧ x ∉ es) := by
  induction es, as using mrg_ind with
  | case1 bs => simpa [mrg_nil, mrg_nil_r] using s2
  | case2 a as => exact ⟨by simpa [mrg_nil, mrg_nil_r] using s1, by simp [mrg_nil, mrg_nil_r], by simp [mrg_nil, mrg_nil_r], by simp [mrg_nil, mrg_nil_r]⟩
  | case3 a as b bs h ih =>
    obtain ⟨p1, p2, m1, m2⟩ := ih (List.pairwise_cons.mp s1).2 s2
    have ha := (List.pairwise_cons.mp s1).1
    have hb := (List.pairwise_cons.mp s2).1
    rw [mrg_cons, if_pos h]
    refine ⟨List.pairwise_cons.mpr ⟨fun x hx => ha x ((m1 x).mp hx).1, p1⟩, p2, fun x => ?_, fun x => ?_⟩
    · simp only [List.mem_cons, m1]
      constructor
      · rintro (rfl | ⟨q, r⟩)
        · exact ⟨.inl rfl, fun z => z.elim (fun e => by omega) fun e => by have := hb _ e; omega⟩
        · exact ⟨.inr q, r⟩
      · rintro ⟨rfl | q, r⟩
        · exact .inl rfl
        · exact .inr ⟨q, r⟩
    · simp only [List.mem_cons, m2]
      constructor
      · rintro ⟨q, r⟩
        refine ⟨q, fun z => z.elim (fun e => ?_) r⟩
        subst e
        exact q.elim (fun e => by omega) fun e => by have := hb _ e; omega
      · rintro ⟨q, r⟩
        exact ⟨q, fun z => r (.inr z)⟩
  | case4 a as b bs h1 h ih =>
    obtain ⟨p1, p2, m1, m2⟩ := ih s1 (List.pairwise_cons.mp s2).2
    have ha := (List.pairwise_cons.mp s1).1
    have hb := (List.pairwise_cons.mp s2).1
    rw [mrg_cons, if_neg h1, if_pos h]
    refine ⟨p1, List.pairwise_cons.mpr ⟨fun x hx => hb x ((m2 x).mp hx).1, p2⟩, fun x => ?_, fun x => ?_⟩
    · simp only [List.mem_cons, m1]
      constructor
      · rintro ⟨q, r⟩
        refine ⟨q, fun z => z.elim (fun e => ?_) r⟩
        subst e
        exact q.elim (fun e => by omega) fun e => by have := ha _ e; omega
      · rintro ⟨q, r⟩
        exact ⟨q, fun z => r (.inr z)⟩
    · simp only [List.mem_cons, m2]
      constructor
      · rintro (rfl | ⟨q, r⟩)
        · exact ⟨.inl rfl, fun z => z.elim (fun e => by omega) fun e => by have := ha _ e; omega⟩
        · exact ⟨.inr q, r⟩
      · rintro ⟨rfl | q, r⟩
        · exact .inl rfl
        · exact .inr ⟨q, r⟩
  | case5 a as b bs h1 h2 ih =>
    obtain ⟨p1, p2, m1, m2⟩ := ih (List.pairwise_cons.mp s1).2 (List.pairwise_cons.mp s2).2
    have ha := (List.pairwise_cons.mp s1).1
    have hb := (List.pairwise_cons.mp s2).1
    obtain rfl : a = b := by omega
    rw [mrg_cons, if_neg h1, if_neg h2]
    refine ⟨p1, p2, fun x => ?_, fun x => ?_⟩
    · simp only [List.mem_cons, m1]
      constructor
      · rintro ⟨q, r⟩
        exact ⟨.inr q, fun z => z.elim (fun e => by have := ha _ q; omega) r⟩
      · rintro ⟨rfl | q, r⟩
        · exact absurd (.inl rfl) r
        · exact ⟨q, fun z => r (.inr z)⟩
    · simp only [List.mem_cons, m2]
      constructor
      · rintro ⟨q, r⟩
        exact ⟨.inr q, fun z => z.elim (fun e => by have := hb _ q; omega) r⟩
      · rintro ⟨rfl | q, r⟩
        · exact absurd (.inl rfl) r
        · exact ⟨q, fun z => r (.inr z)⟩
theorem mrg_len {es as : List Int} : (mrg es as).1.length ≤ es.length := by
  induction es, as using mrg_ind with
  | case1 bs => simp [mrg_nil, mrg_nil_r]
  | case2 a as => simp [mrg_nil, mrg_nil_r]
  | case3 a as b bs h ih => rw [mrg_cons, if_pos h]; simpa using ih
  | case4 a as b bs h1 h ih => rw [mrg_cons, if_neg h1, if_pos h]; exact ih
  | case5 a as b bs h1 h2 ih => rw [mrg_cons, if_neg h1, if_neg h2]; simp only [List.length_cons]; omega
theorem strict_nodup {l : List Int} (h : l.Pairwise (· < ·)) : l.Nodup := h.imp (fun q => by omega)
theorem sorted_strict {l l' : List Int} (p : l'.Perm l) (o : l'.Pairwise (· ≤ ·)) (n : l.Nodup) : l'.Pairwise (· < ·) := by
  have n' : l'.Nodup := p.nodup_iff.mpr n
  exact (o.and n').imp fun ⟨a, b⟩ => by omega
theorem sorted_out {es ms ns : List Int} (p : ns.Perm (es ++ ms)) (o : ns.Pairwise (· ≤ ·)) (s1 : es.Pairwise (· < ·)) (s2 : ms.Pairwise (· < ·)) (d : ∀ x ∈ ms, x ∉ es) : ns.Pairwise (· < ·) ∧ ∀ x, x ∈ ns ↔ x ∈ es ∨ x ∈ ms := by
  refine ⟨sorted_strict p o (List.nodup_append.mpr ⟨strict_nodup s1, strict_nodup s2, fun a ha b hb e => d b hb (e ▸ ha)⟩), fun x => ?_⟩
  rw [p.mem_iff, List.mem_append]
theorem fresh_back {s g g2 : Heap} {fs : List Addr} {a : Addr} (hg : ∀ a o, s.get? a = some o → g.get? a = some o) (KT : KtsTurn fs g g2) (e : g2.get? a = none) : s.get? a = none := by
  cases z : s.get? a with
  | none => rfl
  | some o =>
    obtain ⟨sl, q⟩ := KT.up (hg _ _ z)
    rw [e] at q; cases q
noncomputable def tup2 (a b : Addr) : Obj := { cls := .type "tuple", data := .seq #[.ref a, .ref b] }
section
variable {w : World} {A : Around} {s : Shared} {hb : Heap} {loose : List Str} {mean : ExcName → Option Value} {mg mb : Str → Option Value} {R : Result → Shared → Prop}
variable {outer : List Env} {E : Value → Shared → Prop} {g : Heap} {L : Addr} {m : Str → Option Value} {news : List (Addr × Obj)} {env : Env}
theorem sld_call (X : (hd.heap_1 w.params).In hb) (T : Top topProg loose mean mg mb hb) (S : hb.StaysIn g) (hroom : A.depth < 935) (hh : A.handled = none) (hl1 : Str.ofString "IndexError" ∉ loose) (hl2 : Str.ofString "IndexError" ∉ (clssOf topProg loose).map (·.name)) (K : Stk A hb g outer)
    (hf : env.frame = some L) (hk : env.scope.kind ≠ .module) (F : Fr g L s.heap m) (N : News g L s.heap news) {l1 l2 : Addr} {vs1 vs2 : List Value} {c1 c2 : Nat} {es as : List Int}
    (h1 : s.heap.get? l1 = some (listOf vs1.toArray c1)) (h2 : s.heap.get? l2 = some (listOf vs2.toArray c2)) (i1 : IntsAre vs1 es) (i2 : IntsAre vs2 as) (s1 : es.Pairwise (· < ·)) (s2 : as.Pairwise (· < ·)) (z1 : es.length ≤ 1000) (z2 : as.length ≤ 1000) {Q : Value → Shared → Prop}
    (k : ∀ g' h' tk t M U us1 us2 n1 n2, KtsTurn (frs outer) g g' → Fr g' L h' m → News g' L h' ((t, tup2 M U) :: (U, listOf (List.toArray us2) n2) :: (M, listOf (List.toArray us1) n1) :: news) → AllNe t ((U, listOf (List.toArray us2) n2) :: (M, listOf (List.toArray us1) n1) :: news) → AllNe U ((M, listOf (List.toArray us1) n1) :: news) → AllNe M news →
      (∀ a xs n, s.heap.get? a = some (listOf xs n) → h'.get? a = some (listOf xs n)) → (∀ a o, g.get? a = some o → a ∉ frs outer → h'.get? a = some o) →
      IntsAre us1 (mrg es as).1 → IntsAre us2 (mrg es as).2 → Q (.ref t) { s with heap := h', toks := tk }) :
    wpAny (model Challenge.rw_mq0106_01.row.prog w) (A.deeper env) (PySem.call (.ref 213) [.ref l1, .ref l2]) Q E s := by
  have K' : Stk (A.deeper env) hb s.heap (env :: outer) := K.push F S hf hk
  refine wpAny_call ?_
  refine sld_spec (A := A.deeper env) X T (fun a o e => F.keep _ _ (S a o e)) (by rw [depth_deeper]; omega) hh hl1 hl2 K' h1 h2 i1 i2 s1 s2 z1 z2 ?_
  intro h' tk t M U us1 us2 n1 n2 kp ft ht mu mt ut fM fU hM hU j1 j2
  have efs : frs (env :: outer) = L :: frs outer := by unfold frs; rw [List.filterMap_cons, hf]
  rw [efs] at kp
  obtain ⟨g', KT, F', N'⟩ := turn_call K.outs F kp
  have nn := N' N
  have O' := K.outs.turn KT
  obtain ⟨us1, rfl⟩ : ∃ v : List Value, us1 = v.toArray := ⟨us1.toList, by simp⟩
  obtain ⟨us2, rfl⟩ : ∃ v : List Value, us2 = v.toArray := ⟨us2.toList, by simp⟩
  have nM := news_ne N fM
  have nU := news_ne N fU
  have nt := news_ne N ft
  have fr1 : ∀ {a : Addr} {o : Obj}, s.heap.get? a = none → h'.get? a = some o → a ≠ L ∧ g'.get? a = none := fun {a o} e q => by
    refine ⟨fun z => ?_, ?_⟩
    · obtain ⟨oL, es, ep, hL, _⟩ := F.ns
      rw [← z, e] at hL; cases hL
    · cases z : g.get? a with
      | none => exact KT.none_ _ z
      | some o => have := F.keep _ _ z; rw [e] at this; cases this
  refine k g' h' tk t M U us1 us2 n1 n2 KT F' ?_ ⟨ut, mt, nt⟩ ⟨mu, nU⟩ nM (fun a xs n e => (kp a _ e).1 fun q => ?_) (fun a o e n => (kp a o (F.keep _ _ e)).1 fun q => ?_) (by simpa using j1) (by simpa using j2)
  · intro p hp
    rcases List.mem_cons.mp hp with rfl | hp
    · exact ⟨ht, fr1 ft ht⟩
    · rcases List.mem_cons.mp hp with rfl | hp
      · exact ⟨hU, fr1 fU hU⟩
      · rcases List.mem_cons.mp hp with rfl | hp
        · exact ⟨hM, fr1 fM hM⟩
        · exact nn p hp
  · rcases List.mem_cons.mp q with rfl | q
    · obtain ⟨oL, es, ep, hL, hLd, _⟩ := F.ns
      rw [e] at hL; cases hL; cases hLd
    · obtain ⟨o, e', es, ep, d⟩ := K.outs.atD a q
      rw [F.keep _ _ e'] at e; cases e; cases d
  · rcases List.mem_cons.mp q with rfl | q
    · rw [fr_none F] at e; cases e
    · exact n q
end
section
variable {w : World} {A : Around} {s : Shared} {hb : Heap} {loose : List Str} {mean : ExcName → Option Value} {mg mb : Str → Option Value} {R : Result → Shared → Prop}
variable {outer : List Env}
theorem kw_M10_2 : True := by
  k_with "binaryOp Add ref ref" => (k_here; k_dflt (refine' kmk_add_ints ?z_F ?z_N ?z_a ?z_b ?z_i ?z_j ?_ ?z_z; (case z_F => k_asm); (case z_N => k_asm); (case z_a => exact list_base (by assumption) (by assumption)); (case z_b => exact list_in (by assumption) (by k_mem)); (case z_i => assumption); (case z_j => assumption); (case z_z => rw [sizeLine_eq]; omega)); intro _ _ _ _ _ z_l1' _; (try k_lt z_l1'); (try k_sweep))
  k_with "call builtin:sorted" => (k_here; k_dflt (refine' kso_sorted ?z_F ?z_N ?z_l ?z_i ?z_z ?_; (case z_F => k_asm); (case z_N => k_asm); (case z_l => exact list_in (by assumption) (by k_mem)); (case z_i => assumption); (case z_z => simp only [List.length_append]; omega)); intro _ _ _ _ _ _ _ z_l1' _ _ _ _ _; (try k_lt z_l1'); (try k_sweep))
  trivial
theorem joined_spec (X : (hd.heap_1 w.params).In hb) (T : Top topProg loose mean mg mb hb) (S : hb.StaysIn s.heap) (hroom : A.depth < 930) (hh : A.handled = none) (hl1 : Str.ofString "IndexError" ∉ loose) (hl2 : Str.ofString "IndexError" ∉ (clssOf topProg loose).map (·.name)) (K : Stk A hb s.heap outer) {ll lu lb : Addr} {vl vu vb : List Value} {cl cu cb : Nat} {es us bs : List Int} {d : Int} {dt : Tok}
    (hl : s.heap.get? ll = some (listOf vl.toArray cl)) (hu : s.heap.get? lu = some (listOf vu.toArray cu)) (hb' : s.heap.get? lb = some (listOf vb.toArray cb)) (il : IntsAre vl es) (iu : IntsAre vu us) (ib : IntsAre vb bs)
    (sl : es.Pairwise (· < ·)) (su : us.Pairwise (· < ·)) (sb : bs.Pairwise (· < ·)) (zl : es.length ≤ 20) (zu : us.length ≤ 20) (zb : bs.length ≤ 20) (sub : ∀ x ∈ bs, x ∈ es)
    (k : ∀ h' tk a us' n ns, KpU (frs outer) s.heap h' → h'.get? a = some (listOf (List.toArray us') n) → (s.heap.get? a = none ∨ a = lb) → IntsAre us' ns → ns.Pairwise (· < ·) →
      (∀ x, x ∈ ns ↔ if d = 1 then x ∈ es ∧ x ∉ bs else if d = 2 then x ∈ es ∨ x ∈ us else if d = 3 then x ∈ bs else x ∈ bs ∨ (x ∈ us ∧ x ∉ es)) → R (.ok (.ret (.ref a))) { s with heap := h', toks := tk }) :
    codeAny (model Challenge.rw_mq0106_01.row.prog w) A (.call (.ref 260) ⟨[.ref ll, .ref lu, .ref lb, .int d dt], []⟩) R s := by
  revert X; k_fill; intro X
  refine' enter (binds := [(PySem.Str.ofString "lower", Value.ref ll), (PySem.Str.ofString "upper", Value.ref lu), (PySem.Str.ofString "beyond", Value.ref lb), (PySem.Str.ofString "deed", Value.int d dt)]) X T S [] (by simp) ?k6 ?k7 ?k8 ?k9 ?kB ?_ ?c2 ?c3 ?c4 ?c5
  case k6 => k_is
  case k7 => k_is
  case k8 => k_room
  case k9 => exact BindsTo.of_eq rfl
  case kB => exact locs rfl
  case c2 => decide
  case c3 => exact rfl
  case c4 => exact rfl
  case c5 => exact rfl
  intro g' L' h' F' N' X' T' S' hg' hL' hl'
  (try dsimp only)
  k_fold
  have G : Stk A hb g' outer := ⟨K.stack, K.outs.keeps (fun a o e => hg' a o (by simp) e), K.clear⟩
  walk_at "mygo"
  · rename_i hd1
    refine ⟨X'.keeps F'.keep, ?_⟩
    refine sld_call (hb := hb) X T S' (by omega) hh hl1 hl2 G rfl (fun q => by cases q) F' N' (F'.keep _ _ (hg' _ _ (by simp) hl)) (F'.keep _ _ (hg' _ _ (by simp) hb')) il ib sl sb (by omega) (by omega) ?_
    intro g2 h2 tk2 t M U us1 us2 n1 n2 KT F2 N2 nt nU nM kl kg j1 j2
    simp only [AllNe, and_true] at nt nU nM
    unfold tup2 at N2
    have X2 : (hd.heap_1 w.params).In g2 := X.keeps (stays_turn S' KT K.clear)
    have T2 : Top topProg loose mean mg mb g2 := T.keeps (stays_turn S' KT K.clear)
    have e1 := KT.other _ _ (hg' _ _ (by simp) hl) (G.outs.notList (hg' _ _ (by simp) hl))
    have e2 := KT.other _ _ (hg' _ _ (by simp) hu) (G.outs.notList (hg' _ _ (by simp) hu))
    have e3 := KT.other _ _ (hg' _ _ (by simp) hb') (G.outs.notList (hg' _ _ (by simp) hb'))
    clear F' N' X' T'
    walk_at "mygo"
    obtain ⟨p1, _, m1, _⟩ := mrg_mem sl sb
    exact k _ _ _ _ _ _ (KpU.of_turn (fun a o q => hg' a o (by simp) q) KT F2.keep) (N2.get (.tail _ (.tail _ (.head _)))) (.inl (fresh_back (fun a o q => hg' a o (by simp) q) KT (N2 _ (.tail _ (.tail _ (.head _)))).2.2)) j1 p1 fun x => by rw [m1, if_pos hd1]
  · rename_i hd1 _ hd2
    refine ⟨X'.keeps F'.keep, ?_⟩
    refine sld_call (hb := hb) X T S' (by omega) hh hl1 hl2 G rfl (fun q => by cases q) F' N' (F'.keep _ _ (hg' _ _ (by simp) hu)) (F'.keep _ _ (hg' _ _ (by simp) hl)) iu il su sl (by omega) (by omega) ?_
    intro g2 h2 tk2 t M U us1 us2 n1 n2 KT F2 N2 nt nU nM kl kg j1 j2
    simp only [AllNe, and_true] at nt nU nM
    unfold tup2 at N2
    have X2 : (hd.heap_1 w.params).In g2 := X.keeps (stays_turn S' KT K.clear)
    have T2 : Top topProg loose mean mg mb g2 := T.keeps (stays_turn S' KT K.clear)
    have e1 := KT.other _ _ (hg' _ _ (by simp) hl) (G.outs.notList (hg' _ _ (by simp) hl))
    have e2 := KT.other _ _ (hg' _ _ (by simp) hu) (G.outs.notList (hg' _ _ (by simp) hu))
    have e3 := KT.other _ _ (hg' _ _ (by simp) hb') (G.outs.notList (hg' _ _ (by simp) hb'))
    clear F' N' X' T'
    have lm := mrg_len (es := us) (as := es)
    obtain ⟨p1, _, m1, _⟩ := mrg_mem su sl
    walk_at "mygo"
    rename List.Perm _ _ => pz
    rename List.Pairwise (· ≤ ·) _ => oz
    rename Fr g2 L' _ _ => Fz
    rename News g2 L' _ _ => Nz
    rename IntsAre _ _ => iz
    obtain ⟨q1, q2⟩ := sorted_out pz oz sl p1 fun x q => ((m1 x).mp q).2
    refine k _ _ _ _ _ _ (KpU.of_turn (fun a o q => hg' a o (by simp) q) KT Fz.keep) (Nz.get (.head _)) (.inl (fresh_back (fun a o q => hg' a o (by simp) q) KT (Nz _ (.head _)).2.2)) iz q1 fun x => ?_
    rw [q2, m1]
    simp only [if_neg hd1, if_pos hd2]
    constructor
    · rintro (q | q)
      · exact .inl q
      · exact .inr q.1
    · rintro (q | q)
      · exact .inl q
      · by_cases z : x ∈ es
        · exact .inl z
        · exact .inr ⟨q, z⟩
  · rename_i hd1 _ hd2 _ hd3
    dsimp only
    refine k _ _ _ _ _ _ (KpU.of_turn (fun a o q => hg' a o (by simp) q) .refl F'.keep) (F'.keep _ _ (hg' _ _ (by simp) hb')) (.inr rfl) ib sb fun x => ?_
    rw [if_neg hd1, if_neg hd2, if_pos hd3]
  · rename_i hd1 _ hd2 _ hd3
    refine ⟨X'.keeps F'.keep, ?_⟩
    refine sld_call (hb := hb) X T S' (by omega) hh hl1 hl2 G rfl (fun q => by cases q) F' N' (F'.keep _ _ (hg' _ _ (by simp) hu)) (F'.keep _ _ (hg' _ _ (by simp) hl)) iu il su sl (by omega) (by omega) ?_
    intro g2 h2 tk2 t M U us1 us2 n1 n2 KT F2 N2 nt nU nM kl kg j1 j2
    simp only [AllNe, and_true] at nt nU nM
    unfold tup2 at N2
    have X2 : (hd.heap_1 w.params).In g2 := X.keeps (stays_turn S' KT K.clear)
    have T2 : Top topProg loose mean mg mb g2 := T.keeps (stays_turn S' KT K.clear)
    have e1 := KT.other _ _ (hg' _ _ (by simp) hl) (G.outs.notList (hg' _ _ (by simp) hl))
    have e2 := KT.other _ _ (hg' _ _ (by simp) hu) (G.outs.notList (hg' _ _ (by simp) hu))
    have e3 := KT.other _ _ (hg' _ _ (by simp) hb') (G.outs.notList (hg' _ _ (by simp) hb'))
    clear F' N' X' T'
    have lm := mrg_len (es := us) (as := es)
    obtain ⟨p1, _, m1, _⟩ := mrg_mem su sl
    walk_at "mygo"
    rename List.Perm _ _ => pz
    rename List.Pairwise (· ≤ ·) _ => oz
    rename Fr g2 L' _ _ => Fz
    rename News g2 L' _ _ => Nz
    rename IntsAre _ _ => iz
    obtain ⟨q1, q2⟩ := sorted_out pz oz sb p1 fun x q => fun z => ((m1 x).mp q).2 (sub x z)
    refine k _ _ _ _ _ _ (KpU.of_turn (fun a o q => hg' a o (by simp) q) KT Fz.keep) (Nz.get (.head _)) (.inl (fresh_back (fun a o q => hg' a o (by simp) q) KT (Nz _ (.head _)).2.2)) iz q1 fun x => ?_
    rw [q2, m1]
    simp only [if_neg hd1, if_neg hd2, if_neg hd3]
end
end
theorem off_I0 : True := by
  w_top off
  k_with_none
  trivial
-- I0
section
open PySem PySem.W PyProof.Rows PySem.Calls
/-! what the text of a row gives -/
noncomputable def isBad (x : Int) : Bool := decide ((x.fdiv 405).fmod 5 = 4)
noncomputable def nameOf (x : Int) : Str := wordAt (x.fmod 3)
noncomputable def valOf (x : Int) : Str := wordAt (4 + (x.fdiv 3).fmod 3)
theorem parts_all : ∀ b ∈ ([0, 1, 2, 3] : List Int), ∀ n ∈ ([0, 1, 2] : List Int), (Txt.splitMax (blankAt b ++ wordAt n ++ blankAt b) "=" 1).map Txt.strip = [wordAt n] ∧
    ∀ v ∈ ([0, 1, 2] : List Int), (Txt.splitMax (blankAt b ++ wordAt n ++ blankAt b ++ "=" ++ blankAt b ++ wordAt (4 + v) ++ blankAt b) "=" 1).map Txt.strip = [wordAt n, wordAt (4 + v)] := by decide +kernel
theorem mod3_mem (x : Int) : x.fmod 3 ∈ ([0, 1, 2] : List Int) := by rw [fm3]; simp only [List.mem_cons, List.not_mem_nil, or_false]; omega
theorem mod4_mem (x : Int) : x.fmod 4 ∈ ([0, 1, 2, 3] : List Int) := by rw [fm4]; simp only [List.mem_cons, List.not_mem_nil, or_false]; omega
theorem parts_bad {x : Int} (h : isBad x = true) : (Txt.splitMax (textOf x) "=" 1).map Txt.strip = [nameOf x] := by
  rw [textOf_yes (of_decide_eq_true h)]
  exact (parts_all _ (mod4_mem _) _ (mod3_mem _)).1
theorem parts_ok {x : Int} (h : isBad x = false) : (Txt.splitMax (textOf x) "=" 1).map Txt.strip = [nameOf x, valOf x] := by
  rw [textOf_no (of_decide_eq_false h)]
  exact (parts_all _ (mod4_mem _) _ (mod3_mem _)).2 _ (mod3_mem _)
theorem len_text (x : Int) : (textOf x).length ≤ 1000 := by
  cases h : isBad x with
  | true =>
    rw [textOf_yes (of_decide_eq_true h)]
    exact Nat.le_trans (len_add (len_add (len_blank _) (len_word _)) (len_blank _)) (by decide)
  | false =>
    rw [textOf_no (of_decide_eq_false h)]
    exact Nat.le_trans (len_add (len_add (len_add (len_add (len_add (len_add (len_blank _) (len_word _)) (len_blank _)) len_eq) (len_blank _)) (len_word _)) (len_blank _)) (by decide)
/-! the books' contents -/
noncomputable abbrev Book := List (Str × List Int)
noncomputable def addTo : Book → Str → Int → Book
  | [], x, p => [(x, [p])]
  | (y, ns) :: r, x, p => if x = y then (y, ns ++ [p]) :: r else (y, ns) :: addTo r x p
noncomputable def bookFrom (key : Int → Str) : Book → Nat → List Int → Book
  | bk, _, [] => bk
  | bk, i, x :: r => bookFrom key (addTo bk (key x) i) (i + 1) r
theorem bookFrom_snoc {key : Int → Str} {x : Int} : ∀ {xs : List Int} {bk : Book} {i : Nat}, bookFrom key bk i (xs ++ [x]) = addTo (bookFrom key bk i xs) (key x) (i + xs.length : Nat)
  | [], bk, i => rfl
  | y :: r, bk, i => by
    show bookFrom key _ (i + 1) (r ++ [x]) = _
    rw [bookFrom_snoc]
    show _ = addTo (bookFrom key _ (i + 1) r) _ _
    congr 2
    rw [List.length_cons]; omega
theorem addTo_len {x : Str} {p : Int} : ∀ {bk : Book}, (addTo bk x p).length ≤ bk.length + 1
  | [] => by simp [addTo]
  | (y, ns) :: r => by
    unfold addTo
    split
    · simp
    · have := addTo_len (x := x) (p := p) (bk := r); simp only [List.length_cons]; omega
theorem bookFrom_len {key : Int → Str} : ∀ {xs : List Int} {bk : Book} {i : Nat}, (bookFrom key bk i xs).length ≤ bk.length + xs.length
  | [], bk, i => by simp [bookFrom]
  | y :: r, bk, i => by
    have := bookFrom_len (key := key) (xs := r) (bk := addTo bk (key y) i) (i := i + 1)
    have := addTo_len (x := key y) (p := (i : Int)) (bk := bk)
    simp only [bookFrom, List.length_cons]; omega
inductive BItems : List BItem → Book → List (Addr × Obj) → Prop
  | nil : BItems [] [] []
  | cons (x t a) (vs : List Value) (n : Nat) (ns : List Int) {its bk os} : IntsAre vs ns → BItems its bk os → BItems ((x, t, a) :: its) ((x, ns) :: bk) ((a, W.listOf vs.toArray n) :: os)
theorem BItems.len {its bk os} (x : BItems its bk os) : its.length = bk.length ∧ os.length = bk.length := by
  induction x with
  | nil => exact ⟨rfl, rfl⟩
  | cons _ _ _ _ _ _ _ _ ih => simp [ih.1, ih.2]
theorem BItems.adr {its bk os} (x : BItems its bk os) : os.map Prod.fst = its.map (·.2.2) := by
  induction x with
  | nil => rfl
  | cons _ _ _ _ _ _ _ _ ih => simp [ih]
theorem ints_snoc' {vs : List Value} {ns : List Int} {p : Int} {t : Tok} (h : IntsAre vs ns) : IntsAre (vs ++ [.int p t]) (ns ++ [p]) := ints_snoc h
theorem BItems.hit {its bk os} {x : Str} {q : BItem} (b : BItems its bk os) (hf : its.find? (fun p => decide (x = p.1)) = some q) :
    ∃ o1 o2 vs n, os = o1 ++ (q.2.2, W.listOf vs.toArray n) :: o2 ∧ (∃ ns, (x, ns) ∈ bk ∧ IntsAre vs ns) ∧ ∀ p t n', BItems its (addTo bk x p) (o1 ++ (q.2.2, W.listOf (vs ++ [Value.int p t]).toArray n') :: o2) := by
  induction b with
  | nil => cases hf
  | cons y t a vs n ns hv r ih =>
    rw [List.find?_cons] at hf
    by_cases e : x = y
    · subst e
      rw [decide_eq_true rfl] at hf
      injection hf with hf; subst hf
      refine ⟨[], _, vs, n, rfl, ⟨ns, .head _, hv⟩, fun p t n' => ?_⟩
      unfold addTo
      rw [if_pos rfl]
      exact .cons _ _ _ _ _ _ (ints_snoc' hv) r
    · rw [decide_eq_false e] at hf
      obtain ⟨o1, o2, vs', n', rfl, ⟨ns', hm, hv'⟩, k⟩ := ih hf
      refine ⟨_ :: o1, o2, vs', n', rfl, ⟨ns', .tail _ hm, hv'⟩, fun p t m => ?_⟩
      unfold addTo
      rw [if_neg e]
      exact .cons _ _ _ _ _ _ hv (k p t m)
theorem BItems.miss {its bk os} {x : Str} (b : BItems its bk os) (hf : its.find? (fun p => decide (x = p.1)) = none) {a : Addr} {tx t : Tok} {p : Int} {n : Nat} :
    BItems (its ++ [(x, tx, a)]) (addTo bk x p) (os ++ [(a, W.listOf ([] ++ [.int p t] : List Value).toArray n)]) := by
  induction b with
  | nil => exact .cons _ _ _ _ _ _ (.cons _ _ .nil) .nil
  | cons y t a vs n ns hv r ih =>
    rw [List.find?_cons] at hf
    by_cases e : x = y
    · subst e
      rw [decide_eq_true rfl] at hf; cases hf
    · rw [decide_eq_false e] at hf
      unfold addTo
      rw [if_neg e]
      exact .cons _ _ _ _ _ _ hv (ih hf)
theorem BItems.hit_len {its bk os} {x : Str} {p : Int} {q : BItem} (b : BItems its bk os) (hf : its.find? (fun p => decide (x = p.1)) = some q) : (addTo bk x p).length = bk.length := by
  obtain ⟨o1, o2, vs, n, _, _, k⟩ := b.hit hf
  rw [← (k p 0 0).len.1, b.len.1]
theorem BItems.miss_len {its bk os} {x : Str} {p : Int} (b : BItems its bk os) (hf : its.find? (fun p => decide (x = p.1)) = none) : (addTo bk x p).length = bk.length + 1 := by
  have := (b.miss hf (a := 0) (tx := 0) (t := 0) (p := p) (n := 0)).len.1
  rw [List.length_append] at this
  rw [← this, b.len.1]; rfl
/-! ledgers -/
section
variable {g h h' : Heap} {L a : Addr} {o o' : Obj} {m : Str → Option Value} {all rest : List (Addr × Obj)}
theorem news_cons (N : News g L h all) (hm : (a, o) ∈ all) (e : h'.get? a = some o') (N' : News g L h' rest) : News g L h' ((a, o') :: rest) := fun p hp => by
  rcases List.mem_cons.mp hp with rfl | hp
  · exact ⟨e, (N _ hm).2⟩
  · exact N' p hp
theorem news_app {l₁ l₂ : List (Addr × Obj)} (N₁ : News g L h l₁) (N₂ : News g L h l₂) : News g L h (l₁ ++ l₂) := fun p hp => (List.mem_append.mp hp).elim (N₁ p) (N₂ p)
theorem kp_same (x : Heap.SameBut a h h') : Kp [a] h h' := fun b o n e => x.extBut b o (fun q => n (by simp [q])) e
end
end
theorem off_I2 : True := by
  w_top off
  k_with_none
  trivial
-- I2
section
open PySem PySem.W PyProof.Rows PySem.Calls
noncomputable def Nd (l : List (Addr × Obj)) : Prop := (l.map Prod.fst).Nodup
section
variable {g h h' : Heap} {L a : Addr} {o o' : Obj} {m : Str → Option Value} {pre post : List (Addr × Obj)}
theorem Nd.swap (nd : Nd (pre ++ (a, o) :: post)) : Nd (pre ++ (a, o') :: post) := by
  unfold Nd at *
  simpa using nd
theorem Nd.apart (nd : Nd (pre ++ (a, o) :: post)) : ∀ p, p ∈ pre ∨ p ∈ post → p.1 ≠ a := by
  unfold Nd at nd
  rw [List.map_append, List.map_cons, List.nodup_append] at nd
  obtain ⟨_, n2, n3⟩ := nd
  rw [List.nodup_cons] at n2
  intro p hp q
  rcases hp with hp | hp
  · exact n3 _ (List.mem_map_of_mem hp) _ (.head _) q
  · exact n2.1 (q ▸ (List.mem_map.mpr ⟨p, hp, rfl⟩ : p.1 ∈ post.map Prod.fst))
/-- an object of the ledger is turned -/
theorem News.put (N : News g L h (pre ++ (a, o) :: post)) (nd : Nd (pre ++ (a, o) :: post)) (kp : Kp [a] h h') (e : h'.get? a = some o') : News g L h' (pre ++ (a, o') :: post) := fun p hp => by
  rcases List.mem_append.mp hp with hp | hp
  · exact ⟨kp _ _ (by simp [nd.apart p (.inl hp)]) (N p (List.mem_append_left _ hp)).1, (N p (List.mem_append_left _ hp)).2⟩
  · rcases List.mem_cons.mp hp with rfl | hp
    · exact ⟨e, (N (_, o) (List.mem_append_right _ (.head _))).2⟩
    · exact ⟨kp _ _ (by simp [nd.apart p (.inr hp)]) (N p (List.mem_append_right _ (.tail _ hp))).1, (N p (List.mem_append_right _ (.tail _ hp))).2⟩
theorem Fr.put {all : List (Addr × Obj)} (F : Fr g L h m) (N : News g L h all) (hm : (a, o) ∈ all) (kp : Kp [a] h h') : Fr g L h' m :=
  fr_kp F kp fun d hd => by rw [List.mem_singleton.mp hd]; exact ⟨(N _ hm).2.2, (N _ hm).2.1⟩
theorem hb_none {hb : Heap} {all : List (Addr × Obj)} (S : hb.StaysIn g) (N : News g L h all) (hm : (a, o) ∈ all) : hb.get? a = none := by
  cases q : hb.get? a with
  | none => rfl
  | some x => have := S _ _ q; rw [(N _ hm).2.2] at this; cases this
theorem fresh_ne {all : List (Addr × Obj)} (N : News g L h all) (fr : h.get? a = none) : a ∉ all.map Prod.fst := fun q => by
  obtain ⟨p, hp, rfl⟩ := List.mem_map.mp q
  have := (N p hp).1; rw [fr] at this; cases this
end
section
variable {w : World} {A : Around} {E : Value → Shared → Prop} {s : Shared} {hb g : Heap} {loose : List Str} {mean : ExcName → Option Value} {mg mb : Str → Option Value} {value slice : Expr} {Q : Value → Shared → Prop}
  {L b dx lam nt : Addr} {its : List BItem} {bk : Book} {ep cn : Nat} {x : Str} {tx : Tok} {ns : Array Value} {ops : List Value} {pre mid P R os : List (Addr × Obj)} {m : Str → Option Value} {p : Int}
/-- a book asked for a word, while it is built -/
theorem idx_sub (X : (hd.heap_1 w.params).In g) (T : Top topProg loose mean mg mb g) (hroom : A.depth < 890) (hh : A.handled = none) (F : Fr g L s.heap m)
    (N : News g L s.heap (pre ++ (b, bookObj dx lam (esOf w its) ep) :: (mid ++ (nt, W.listOf ns cn) :: (P ++ (os ++ R))))) (nd : Nd (pre ++ (b, bookObj dx lam (esOf w its) ep) :: (mid ++ (nt, W.listOf ns cn) :: (P ++ (os ++ R)))))
    (hsm : (b == sysModules) = false) (hdx : (dx, emptyDict) ∈ P) (hlm : LamAt s.heap lam nt) (hns : ns.size ≤ 1000) (hz : its.length ≤ 1000) (B : BItems its bk os)
    (k : ∀ h' tk a vs n its' ep' ns' cn', Fr g L h' m → News g L h' ((a, W.listOf vs.toArray n) :: (pre ++ (b, bookObj dx lam (esOf w its') ep') :: (mid ++ (nt, W.listOf ns' cn') :: (P ++ (os ++ R))))) → vs.length ≤ 1000000 ∨ (∃ ns₀, (x, ns₀) ∈ bk ∧ IntsAre vs ns₀) →
      ns'.size + its.length = ns.size + its'.length → its'.length ≤ its.length + 1 →
      (∀ h2 t n', Kp [a] h' h2 → h2.get? a = some (W.listOf (vs ++ [Value.int p t]).toArray n') → ∃ os', News g L h2 (pre ++ (b, bookObj dx lam (esOf w its') ep') :: (mid ++ (nt, W.listOf ns' cn') :: (P ++ (os' ++ R)))) ∧
        Nd (pre ++ (b, bookObj dx lam (esOf w its') ep') :: (mid ++ (nt, W.listOf ns' cn') :: (P ++ (os' ++ R)))) ∧ BItems its' (addTo bk x p) os') → Q (.ref a) { s with heap := h', toks := tk })
    (hs : subscripted slice false (.ref b) (.str x tx) = operate ops (getItem (.ref b) (.str x tx)) := by with_unfolding_all rfl) :
    wpAny (model Challenge.rw_mq0106_01.row.prog w) A (subscriptTail value slice (.ref b) (.str x tx)) Q E s := by
  have hmb : (b, bookObj dx lam (esOf w its) ep) ∈ pre ++ (b, bookObj dx lam (esOf w its) ep) :: (mid ++ (nt, W.listOf ns cn) :: (P ++ (os ++ R))) := List.mem_append_right _ (.head _)
  have hmn : (nt, W.listOf ns cn) ∈ pre ++ (b, bookObj dx lam (esOf w its) ep) :: (mid ++ (nt, W.listOf ns cn) :: (P ++ (os ++ R))) := List.mem_append_right _ (.tail _ (List.mem_append_right _ (.head _)))
  have hmd : (dx, emptyDict) ∈ pre ++ (b, bookObj dx lam (esOf w its) ep) :: (mid ++ (nt, W.listOf ns cn) :: (P ++ (os ++ R))) := List.mem_append_right _ (.tail _ (List.mem_append_right _ (.tail _ (List.mem_append_left _ hdx))))
  cases hf : its.find? (fun p => decide (x = p.1)) with
  | some q =>
    refine bk_hit (X.keeps F.keep) (News.get N hmb) hf ?_ hs
    obtain ⟨o1, o2, vs, n, rfl, hv, hk⟩ := B.hit hf
    have hma : (q.2.2, W.listOf vs.toArray n) ∈ pre ++ (b, bookObj dx lam (esOf w its) ep) :: (mid ++ (nt, W.listOf ns cn) :: (P ++ ((o1 ++ (q.2.2, W.listOf vs.toArray n) :: o2) ++ R))) := by simp
    refine k s.heap _ q.2.2 vs n its ep ns cn F (news_cons N hma (News.get N hma) N) (.inr hv) rfl (Nat.le_succ _) fun h2 t n' kp e => ?_
    have N2 := News.put (pre := pre ++ (b, bookObj dx lam (esOf w its) ep) :: (mid ++ (nt, W.listOf ns cn) :: (P ++ o1))) (post := o2 ++ R) (a := q.2.2) (by simpa using N) (by simpa using nd) kp e
    exact ⟨o1 ++ (q.2.2, W.listOf (vs ++ [Value.int p t]).toArray n') :: o2, by simpa using N2, by unfold Nd at nd ⊢; simpa using nd, hk p t n'⟩
  | none =>
    refine bk_missU X T (by exact F.keep) hroom hh hsm (News.get N hmb) (N _ hmb).2.2 (News.get N hmd) hz hf hlm (News.get N hmn) (N _ hmn).2.2 hns (fun h' tk a t kp en fr ea eb => ?_) hs
    have F' := fr_kp F kp (fun d hd => by
      simp only [List.mem_cons, List.not_mem_nil, or_false] at hd
      rcases hd with rfl | rfl
      · exact ⟨(N _ hmb).2.2, (N _ hmb).2.1⟩
      · exact ⟨(N _ hmn).2.2, (N _ hmn).2.1⟩)
    have hbn : ∀ q ∈ pre ++ mid ++ P ++ os ++ R, q.1 ∉ [b, nt] ∧ q ∈ pre ++ (b, bookObj dx lam (esOf w its) ep) :: (mid ++ (nt, W.listOf ns cn) :: (P ++ (os ++ R))) := fun q hq => by
      have n1 := nd.apart q
      have nd' : Nd ((pre ++ (b, bookObj dx lam (esOf w its) ep) :: mid) ++ (nt, W.listOf ns cn) :: (P ++ (os ++ R))) := by simpa using nd
      have n2 := nd'.apart q
      simp only [List.mem_append, List.mem_cons] at n1 n2 hq ⊢
      simp only [List.not_mem_nil, or_false, not_or]
      refine ⟨⟨n1 ?_, n2 ?_⟩, ?_⟩
      · rcases hq with (((hq | hq) | hq) | hq) | hq <;> simp [hq]
      · rcases hq with (((hq | hq) | hq) | hq) | hq <;> simp [hq]
      · rcases hq with (((hq | hq) | hq) | hq) | hq <;> simp [hq]
    have old : ∀ q ∈ pre ++ mid ++ P ++ os ++ R, h'.get? q.1 = some q.2 ∧ q.1 ≠ L ∧ g.get? q.1 = none := fun q hq => ⟨kp _ _ (hbn q hq).1 (N q (hbn q hq).2).1, (N q (hbn q hq).2).2⟩
    have fa := fresh_ne N fr
    have aL : a ≠ L := fun q => by
      obtain ⟨oL, es, ep, hL, _⟩ := F.ns
      rw [q, hL] at fr; cases fr
    have ga : g.get? a = none := by
      cases q : g.get? a with
      | none => rfl
      | some z => have := F.keep _ _ q; rw [fr] at this; cases this
    have N' : News g L h' (pre ++ (b, bookObj dx lam (esOf w (its ++ [(x, tx, a)])) (ep + 1)) :: (mid ++ (nt, W.listOf (ns.push (.int ns.size t)) (cn + 1)) :: (P ++ (os ++ R)))) := fun q hq => by
      simp only [List.mem_append, List.mem_cons] at hq
      rcases hq with hq | rfl | hq | rfl | hq | hq | hq
      · exact old q (by simp [hq])
      · exact ⟨eb, (N _ hmb).2⟩
      · exact old q (by simp [hq])
      · exact ⟨en, (N _ hmn).2⟩
      · exact old q (by simp [hq])
      · exact old q (by simp [hq])
      · exact old q (by simp [hq])
    refine k h' tk a [] 0 (its ++ [(x, tx, a)]) (ep + 1) (ns.push (.int ns.size t)) (cn + 1) F' (fun q hq => ?_) (.inl (by simp)) (by simp; omega) (by simp) fun h2 t2 n' kp2 e2 => ?_
    · rcases List.mem_cons.mp hq with rfl | hq
      · exact ⟨ea, aL, ga⟩
      · exact N' q hq
    · refine ⟨os ++ [(a, W.listOf ([] ++ [Value.int p t2] : List Value).toArray n')], fun q hq => ?_, ?_, B.miss hf⟩
      · by_cases hqa : q = (a, W.listOf ([] ++ [Value.int p t2] : List Value).toArray n')
        · subst hqa; exact ⟨e2, aL, ga⟩
        · have hq' : q ∈ pre ++ (b, bookObj dx lam (esOf w (its ++ [(x, tx, a)])) (ep + 1)) :: (mid ++ (nt, W.listOf (ns.push (.int ns.size t)) (cn + 1)) :: (P ++ (os ++ R))) := by
            simp only [List.mem_append, List.mem_cons, List.not_mem_nil, or_false] at hq ⊢
            rcases hq with hq | hq | hq | hq | hq | (hq | hq) | hq
            all_goals first | exact absurd hq hqa | simp [hq]
          have := N' q hq'
          refine ⟨kp2 _ _ (fun z => ?_) this.1, this.2⟩
          rw [List.mem_singleton] at z
          refine fa ?_
          rw [← z]
          have : q.1 ∈ (pre ++ (b, bookObj dx lam (esOf w (its ++ [(x, tx, a)])) (ep + 1)) :: (mid ++ (nt, W.listOf (ns.push (.int ns.size t)) (cn + 1)) :: (P ++ (os ++ R)))).map Prod.fst := List.mem_map_of_mem hq'
          simpa using this
      · unfold Nd at nd ⊢
        have e : (pre ++ (b, bookObj dx lam (esOf w (its ++ [(x, tx, a)])) (ep + 1)) :: (mid ++ (nt, W.listOf (ns.push (.int ns.size t)) (cn + 1)) :: (P ++ ((os ++ [(a, W.listOf ([] ++ [Value.int p t2] : List Value).toArray n')]) ++ R)))).map Prod.fst =
            ((pre ++ (b, bookObj dx lam (esOf w its) ep) :: (mid ++ (nt, W.listOf ns cn) :: (P ++ os))).map Prod.fst) ++ a :: R.map Prod.fst := by simp
        have e' : (pre ++ (b, bookObj dx lam (esOf w its) ep) :: (mid ++ (nt, W.listOf ns cn) :: (P ++ (os ++ R)))).map Prod.fst = ((pre ++ (b, bookObj dx lam (esOf w its) ep) :: (mid ++ (nt, W.listOf ns cn) :: (P ++ os))).map Prod.fst) ++ R.map Prod.fst := by simp
        rw [e'] at nd
        rw [e', List.mem_append, not_or] at fa
        rw [e]
        rw [List.nodup_append] at nd ⊢
        refine ⟨nd.1, List.nodup_cons.mpr ⟨fa.2, nd.2.1⟩, fun u hu v hv => ?_⟩
        rcases List.mem_cons.mp hv with rfl | hv
        · exact fun z => fa.1 (z ▸ hu)
        · exact nd.2.2 u hu v hv
end
end
theorem off_E1 : True := by
  w_top off
  k_with_none
  trivial
-- E1
section
open PySem PySem.W PyProof.Rows PySem.Calls
theorem kw_E1_1 : True := by
  k_with_none
  k_with "mytree" => ((first | (with_reducible show wpAny _ _ _ _ _ _) | (with_reducible show ite _ _ _)); (fail_if_success (with_reducible show wpAny _ _ (eval (PySem.Expr.ListComp _ _ _ _) _) _ _ _)); (fail_if_success (with_reducible show wpAny _ _ (exec (PySem.Stmt.For _ _ _ _ _) _) _ _ _)); (fail_if_success (with_reducible show wpAny _ _ (exec (PySem.Stmt.While _ _ _ _) _) _ _ _)); (fail_if_success (with_reducible show wpAny _ _ (exec (PySem.Stmt.Try _ _ _ _ _) _) _ _ _)); (fail_if_success (with_reducible show wpAny _ _ (exec (PySem.Stmt.Assign _ (PySem.Expr.ListComp _ _ _ _) _) _) _ _ _)))
  k_with "eval Name" => (k_here; k_dflt (first | (refine' nm_local ?z_F ?z_L ?z_v ?_ ?z_a ?z_b; (case z_a => rfl); (case z_b => rfl); (case z_F => k_asm); (case z_L => rfl); (case z_v => first | assumption | rfl); k_whole) | (refine' nm_cellN ?z_N ?z_c ?z_o ?z_d ?_ ?z_a ?z_b; (case z_a => rfl); (case z_b => rfl); (case z_N => k_asm); (case z_c => rfl); (case z_o => k_mem); (case z_d => assumption); k_whole) | (refine' nm_cell ?z_F ?z_c ?z_o ?z_d ?_ ?z_a ?z_b; (case z_a => rfl); (case z_b => rfl); (case z_F => k_asm); (case z_c => rfl); (case z_o => assumption); (case z_d => assumption); k_whole)))
  k_with "subscriptTail Name Name ref int" => (k_here; k_dflt (refine' tup_item ?z_t ?z_hi ?_ ?z_e; (case z_t => exact Fr.keep (by k_asm) _ _ (by assumption)); (case z_hi => assumption); (case z_e => with_unfolding_all rfl)); intro _)
  k_with "mytree" => ((first | (with_reducible show wpAny _ _ _ _ _ _) | (with_reducible show ite _ _ _)); (fail_if_success (with_reducible show wpAny _ _ (eval (PySem.Expr.ListComp _ _ _ _) _) _ _ _)); (fail_if_success (with_reducible show wpAny _ _ (PySem.compareOp PySem.CmpOp.NotIn _ _) _ _ _)); (fail_if_success (with_reducible show wpAny _ _ (PySem.newTuple _) _ _ _)); (fail_if_success (with_reducible show wpAny _ _ (PySem.call (PySem.Value.ref _) _) _ _ _)); (fail_if_success (with_reducible show wpAny _ _ (PySem.call (PySem.Value.builtin "list.append") _) _ _ _)); (fail_if_success (with_reducible show wpAny _ _ (exec (PySem.Stmt.For _ _ _ _ _) _) _ _ _)))
  k_with "mygo" => (repeat' (first | (k_unfold; (try dsimp only)) | (walk_at "mytree"; walk1) | (dsimp only; walk_at "mytree"; walk1) | fail "no step"))
  trivial
/-- is this row's side the word? -/
noncomputable def rowTest (g : Heap) (sd : Int) (x : Str) (v : Value) : Bool := match v with
  | .ref a => match g.get? a with
    | some o => match o.data with
      | .seq xs _ => match xs.toList with
        | [.str p _, .str q _] => decide (sideOf sd (p, q) = x)
        | _ => false
      | _ => false
    | none => false
  | _ => false
theorem rowTest_at {g : Heap} {sd : Int} {x p q : Str} {a : Addr} {tx ty : Tok} (e : g.get? a = some (rowObj p q tx ty)) : rowTest g sd x (.ref a) = decide (sideOf sd (p, q) = x) := by
  unfold rowTest; simp only [e]
theorem rows_test {g : Heap} {sd : Int} {x : Str} {vs : List Value} {rs : List (Str × Str)} (h : RowsAt g vs rs) : vs.map (fun v => Value.bool (rowTest g sd x v)) = (rs.map fun r => decide (sideOf sd r = x)).map Value.bool := by
  induction h with
  | nil => rfl
  | cons a p q tx ty e r ih => simp only [List.map_cons, rowTest_at e, ih]
theorem gl_fun {G : Value → Value → List (Addr × Obj) → Prop} {f : Value → Value} (hG : ∀ v y os, G v y os → y = f v ∧ os = []) {vs ys : List Value} {os : List (Addr × Obj)} (x : GL G vs ys os) : ys = vs.map f ∧ os = [] := by
  induction x with
  | nil => exact ⟨rfl, rfl⟩
  | snoc _ h ih =>
    obtain ⟨rfl, rfl⟩ := ih
    obtain ⟨rfl, rfl⟩ := hG _ _ _ h
    exact ⟨by simp, rfl⟩
theorem gl_at {G : Value → Value → List (Addr × Obj) → Prop} {vs ys : List Value} {os : List (Addr × Obj)} (x : GL G vs ys os) : ∀ {i : Nat} {v : Value}, vs[i]? = some v → ∃ y o, ys[i]? = some y ∧ G v y o ∧ ∀ q ∈ o, q ∈ os := by
  induction x with
  | nil => intro i v h; cases h
  | @snoc vs ys os v y o r hg ih =>
    intro i u h
    have hl := r.length
    by_cases hi : i < vs.length
    · rw [List.getElem?_append_left hi] at h
      obtain ⟨y', o', e1, e2, e3⟩ := ih h
      exact ⟨y', o', by rw [List.getElem?_append_left (by omega)]; exact e1, e2, fun q hq => List.mem_append_left _ (e3 q hq)⟩
    · rw [List.getElem?_append_right (by omega)] at h
      have e0 : i - vs.length = 0 := by
        have := (List.getElem?_eq_some_iff.mp h).1
        rw [List.length_singleton] at this; omega
      rw [e0] at h
      cases h
      exact ⟨y, o, by rw [List.getElem?_append_right (by omega), hl, e0]; rfl, hg, fun q hq => List.mem_append_right _ hq⟩
noncomputable abbrev dueTup (x : Str) (t : Tok) (l : Addr) : Obj := { cls := .type "tuple", data := .seq #[.str x t, .ref l] }
/-- what is due: each word with its places -/
noncomputable def DueIn (os : List (Addr × Obj)) (rws : List (Str × Str)) (sd : Int) (ws : List Str) (ys : List Value) : Prop :=
  ys.length = ws.length ∧ ∀ (i : Nat) x, ws[i]? = some x → ∃ a t l us n, ys[i]? = some (.ref a) ∧ (a, dueTup x t l) ∈ os ∧ (l, listOf us.toArray n) ∈ os ∧ NatsAre us (places (rws.map fun r => decide (sideOf sd r = x)))
section
variable {w : World} {A : Around} {s : Shared} {hb : Heap} {loose : List Str} {mean : ExcName → Option Value} {mg mb : Str → Option Value} {R : Result → Shared → Prop}
/-- what stands at a turn of the due's loop -/
inductive DueI (s : Shared) (g' : Heap) (L' lw lr it : Addr) (oA oB : Obj) (rws : List (Str × Str)) (sd : Int) (n : Nat) (s' : Shared) : Prop
  | mk (h : Heap) (tk : Nat) (m : Str → Option Value) (j : Nat) (oi : Obj) (wvs : List Value) (cw : Nat) (_ : s' = ⟨h, s.gens, s.drawn, tk, s.os⟩) (_ : Fr g' L' h m) (_ : m "words" = some (.ref lw))
    (_ : News g' L' h [(it, oi), (lw, listOf wvs.toArray cw), (L' + 1 + 1, oA), (L' + 1, oB)]) (_ : oi.cls = .type "list_iterator") (_ : oi.data = .fields #[.ref lr, .int j 0]) (_ : j ≤ rws.length)
    (_ : StrsAre wvs (wordsOf ((rws.take j).map (sideOf sd)))) (_ : n = rws.length - j)
theorem due_spec (X : (hd.heap_1 w.params).In hb) (T : Top topProg loose mean mg mb hb) (S : hb.StaysIn s.heap) (hroom : A.depth < 800) (hh : A.handled = none) {lr : Addr} {vs : List Value} {c : Nat} {sd : Int} {ts : Tok} {rws : List (Str × Str)}
    (hlr : s.heap.get? lr = some (listOf vs.toArray c)) (hrw : RowsAt s.heap vs rws) (hsd : sd = 0 ∨ sd = 1) (hz : rws.length ≤ 100)
    (k : ∀ h' tk D ys nD os, Kp [] s.heap h' → s.heap.get? D = none → h'.get? D = some (listOf (List.toArray ys) nD) → (∀ q ∈ os, h'.get? q.1 = some q.2 ∧ s.heap.get? q.1 = none ∧ q.1 ≠ D) → DueIn os rws sd (wordsOf (rws.map (sideOf sd))) ys → R (.ok (.ret (.ref D))) { s with heap := h', toks := tk }) :
    codeAny (model Challenge.rw_mq0106_01.row.prog w) A (.call (.ref 270) ⟨[.ref lr, .int sd ts], []⟩) R s := by
  revert X; k_fill; intro X
  refine' enterC (binds := [(PySem.Str.ofString "rows", Value.ref lr), (PySem.Str.ofString "side", Value.int sd ts)]) X T S [] (by simp) ?k6 ?k7 ?k8 ?k9 ?kB ?kD ?_ ?c3 ?c4 ?c5
  case k6 => k_is
  case k7 => k_is
  case k8 => k_room
  case k9 => exact BindsTo.of_eq rfl
  case kB => exact rfl
  case kD => decide +kernel
  case c3 => exact rfl
  case c4 => exact rfl
  case c5 => exact rfl
  intro g' L' h' tk' cells' F' N' Y' X' T' S' hg' hL' hl'
  k_cells Y'
  (try simp only [List.cons_append, List.nil_append] at N')
  (try dsimp only)
  show wpAny _ _ _ _ _ _
  k_fold
  clear X T S
  have hlg := hg' lr _ (by simp) hlr
  have hrg := hrw.keeps (h' := g') fun a o e _ => hg' a o (by simp) e
  rename_i oA oB dA dB
  walk_at "mygo"
  refine wpAny_For ?_
  walk_at "mygo"
  rename Fr g' L' _ _ => F1
  rename News g' L' _ _ => N1
  rename_i lw h1 l1 h2
  have w1 : @LT.lt Nat _ (L' + 1 + 1) lw := by omega
  refine wpAny_pyIter_list (l := lr) (items := vs.toArray) (list_base F1 hlg) ?_
  have F2 := Fr.pushS F1 { cls := .type "list_iterator", data := .fields #[.ref lr, .int 0 0] }
  have N2 := News.push F1 N1 { cls := .type "list_iterator", data := .fields #[.ref lr, .int 0 0] }
  have q1 : @LT.lt Nat _ lw h2.objs.size := Heap.lt_size (N1 _ (.head _)).1
  have nd : Nd [(h2.objs.size, { cls := .type "list_iterator", data := .fields #[.ref lr, .int 0 0] }), (lw, listOf #[] 0), (L' + 1 + 1, oA), (L' + 1, oB)] := by
    unfold Nd
    simp only [List.map_cons, List.map_nil, List.nodup_cons, List.mem_cons, List.not_mem_nil, or_false, not_or, not_false_iff, List.nodup_nil, and_true]
    repeat' apply And.intro
    all_goals first | exact Nat.ne_of_gt (by omega) | exact Nat.ne_of_lt (by omega) | trivial
  have hvl : vs.length = rws.length := hrw.len
  obtain ⟨Inv, mkI, ofI⟩ : ∃ Inv : Nat → Shared → Prop, (∀ n s', DueI s g' L' lw lr h2.objs.size oA oB rws sd n s' → Inv n s') ∧ ∀ n s', Inv n s' → DueI s g' L' lw lr h2.objs.size oA oB rws sd n s' := ⟨_, fun _ _ x => x, fun _ _ x => x⟩
  refine codeAny_forLoop Inv ?turn rws.length ?init
  case init => exact mkI _ _ ⟨_, _, _, 0, _, [], 0, rfl, F2, rfl, N2, rfl, rfl, Nat.zero_le _, .nil, rfl⟩
  case turn =>
    clear F1 N1 F2 N2
    intro n s₁ hI
    obtain ⟨h, tk, m, j, oi, wvs, cw, rfl, F, mW, N, hoc, hod, hj, hw, hn⟩ := ofI _ _ hI
    clear ofI hI
    by_cases cj : j < rws.length
    · obtain ⟨a, tx, ty, hx, ha⟩ := hrg.get cj
      generalize hr : rws.getD j ("", "") = r at ha
      obtain ⟨x, y⟩ := r
      have hx' : vs.toArray[j]? = some (.ref a) := by simpa using hx
      refine wpAny_pyNext_list_item (i := j) ⟨oi, News.get N (.head _), hoc, hod⟩ (list_base F hlg) hx' fun h3 hit3 hs3 => ?_
      obtain ⟨oi3, ho3, hoc3, hod3⟩ := hit3
      have F3 := Fr.put F N (.head _) (kp_same hs3)
      have nd1 : Nd ([] ++ (h2.objs.size, oi) :: [(lw, listOf wvs.toArray cw), (L' + 1 + 1, oA), (L' + 1, oB)]) := nd
      have N3 := News.put (pre := []) N nd1 (kp_same hs3) ho3
      clear F N
      have N3' : News g' L' h3 [(h2.objs.size, oi3), (lw, listOf wvs.toArray cw), (L' + 1 + 1, oA), (L' + 1, oB)] := N3
      clear N3
      dsimp only
      walk_at "mygo"
      walk_at "mygo"
      · rename Fr g' L' _ _ => F5
        rename News g' L' _ _ => N5
        rename (List.any _ _ = _) => hin
        have tk1 := take_map_snoc (f := sideOf sd) cj hr
        refine ⟨rws.length - (j + 1), by omega, mkI _ _ ⟨_, _, _, j + 1, oi3, wvs, cw, rfl, F5, mW, N5, hoc3, hod3, cj, ?_, rfl⟩⟩
        rw [tk1, wordsOf_snoc]
        unfold addWord
        rw [if_pos hin]; exact hw
      · rename_i tq
        rename Fr g' L' _ _ => F5
        rename News g' L' _ _ => N5
        rename (List.any _ _ = _) => hin
        have tk1 := take_map_snoc (f := sideOf sd) cj hr
        have zw3 := strs_len hw
        have zw4 : (wordsOf ((rws.take j).map (sideOf sd))).length ≤ 100 := Nat.le_trans wordsOf_len (by rw [List.length_map, List.length_take]; omega)
        have zsz : wvs.toArray.size ≤ sizeLine := by rw [List.size_toArray, sizeLine_eq]; omega
        refine append_at (hsz := zsz) (News.get N5 (.tail _ (.head _))) (fun h6 hs6 e6 => ?_)
        have F6 := Fr.put F5 N5 (.tail _ (.head _)) (kp_same hs6)
        have nd2 : Nd ([(h2.objs.size, oi3)] ++ (lw, listOf wvs.toArray cw) :: [(L' + 1 + 1, oA), (L' + 1, oB)]) := nd
        have N6 := News.put (pre := [(h2.objs.size, oi3)]) N5 nd2 (kp_same hs6) e6
        clear F5 N5
        dsimp only
        walk_at "mygo"
        refine ⟨rws.length - (j + 1), by omega, mkI _ _ ⟨_, _, _, j + 1, oi3, wvs ++ [.str (sideOf sd (x, y)) tq], cw + 1, rfl, F6, mW, ?_, hoc3, hod3, cj, ?_, rfl⟩⟩
        · rw [← List.push_toArray]; exact N6
        · rw [tk1, wordsOf_snoc]
          unfold addWord
          rw [if_neg (by rw [hin]; decide)]
          exact strs_snoc hw
    · obtain rfl : j = rws.length := by omega
      refine wpAny_pyNext_list_end (by first | exact hh | rfl) ⟨oi, News.get N (.head _), hoc, hod⟩ (list_base F hlg) (by simp [hvl]) fun h3 hs3 => ?_
      have kp3 : Kp [h2.objs.size] h h3 := fun b o n e => hs3 b o (by simpa using n) e
      have F3 := Fr.put F N (.head _) kp3
      have nd1 : Nd ([] ++ (h2.objs.size, oi) :: [(lw, listOf wvs.toArray cw), (L' + 1 + 1, oA), (L' + 1, oB)]) := nd
      have N3 : News g' L' h3 [(lw, listOf wvs.toArray cw), (L' + 1 + 1, oA), (L' + 1, oB)] := news_kp (news_sub N fun q hq => .tail _ hq) kp3 fun q hq => by
        have := Nd.apart nd1 q (.inr hq)
        simpa using this
      rw [List.take_length] at hw
      have zw := strs_len hw
      have zw2 : (wordsOf (rws.map (sideOf sd))).length ≤ 100 := Nat.le_trans wordsOf_len (by rw [List.length_map]; omega)
      have X3 := X'.keeps F3.keep
      have T3 : Top topProg loose mean mg mb h3 := T'.keeps F3.keep
      clear F N
      dsimp only
      walk_at "mygo"
      have dA' : oA.data = .cell (some (.int sd ts)) := dA
      have dB' : oB.data = .cell (some (.ref lr)) := dB
      refine' comp_evalC (fun _ => true) (fun v y os => ∃ x t a l us n, v = .str x t ∧ y = .ref a ∧ os = [(a, { cls := .type "tuple", data := .seq #[.str x t, .ref l] }), (l, listOf us.toArray n)] ∧ NatsAre us (places (rws.map fun r => decide (sideOf sd r = x)))) ?e1 ?e2 ?e3 ?e4 ?e5 ?e6 ?e7
      case e1 => exact rfl
      case e2 => exact fun _ => rfl
      case e3 => exact fun _ => rfl
      case e4 => exact rfl
      case e5 => decide
      case e6 => exact fun _ => rfl
      walk_at "mygo"
      refine need_listC (by first | exact hh | rfl) (l := lw) (vs := wvs) ⟨_, News.get N3 (.head _), rfl, cw, rfl⟩ (by omega) (fun b hb => nomatch hb) ?t ?e ?d
      case t =>
        intro C i v h tk E' o hi F N hd
        exact wpAny_pure ⟨rfl, _, _, rfl, fun _ _ e => e⟩
      case e =>
        intro C i v h tk E' o hi hp F N hd
        dsimp only
        walk_at "mygo"
        obtain ⟨x, t, rfl⟩ : ∃ x t, v = .str x t := by
          obtain ⟨t, e⟩ := strs_get hw (i := i) (x := (wordsOf (rws.map (sideOf sd))).getD i "") (by
            have := (List.getElem?_eq_some_iff.mp hi).1
            rw [List.getD_eq_getElem?_getD, List.getElem?_eq_getElem (by omega)]; rfl)
          rw [e] at hi; injection hi with hi
          exact ⟨_, _, hi.symm⟩
        have eA : h3.get? (L' + 1 + 1) = some oA := News.get N3 (.tail _ (.head _))
        have eB : h3.get? (L' + 1) = some oB := News.get N3 (.tail _ (.tail _ (.head _)))
        refine' comp_eval (cl := [(Str.ofString "word", C + 1), (Str.ofString "side", L' + 1 + 1)]) (fun _ => true) (fun v y os => y = .bool (rowTest g' sd x v) ∧ os = []) ?f1 ?f2 ?f3 ?f4 ?f5 ?f6
        case f1 => exact rfl
        case f2 => decide
        case f3 => exact rfl
        case f4 => decide
        case f5 => exact rfl
        walk_at "mygo"
        have hlr2 : h.get? lr = some (listOf vs.toArray c) := F.keep _ _ (F3.keep _ _ hlg)
        refine need_list (by first | exact hh | rfl) (l := lr) (vs := vs) ⟨_, hlr2, rfl, c, rfl⟩ (by omega) (fun b hb => nomatch hb) ?t2 ?e2 ?d2
        case t2 =>
          intro C2 i2 v2 h4 tk4 E4 m4 hi2 F4 hm4
          exact wpAny_pure ⟨rfl, _, _, rfl, fun _ _ e => e⟩
        case e2 =>
          intro C2 i2 v2 h4 tk4 E4 m4 hi2 hp2 F4 hm4
          dsimp only at F4 ⊢
          obtain ⟨a, tx, ty, ea, ha⟩ := hrg.get (i := i2) (by have := (List.getElem?_eq_some_iff.mp hi2).1; omega)
          rw [hi2] at ea; cases ea
          generalize hr : rws.getD i2 ("", "") = r at ha
          obtain ⟨p, q⟩ := r
          have eA2 := F.keep _ _ eA
          have eW := News.get N (.head _)
          have ha2 : h.get? a = some (rowObj p q tx ty) := F.keep _ _ (F3.keep _ _ ha)
          rw [rowTest_at ha]
          walk_at "mygo"
          exact ⟨⟨_, _, rfl, fun _ _ e => e⟩, [], ⟨rfl, rfl⟩, fun q hq => nomatch hq⟩
        case d2 =>
          intro h4 tk4 D ys os nD hD hD' hG hos kp hE
          dsimp only at hD kp ⊢
          obtain ⟨rfl, rfl⟩ := gl_fun (fun _ _ _ x => x) hG
          rw [List.filter_eq_self.mpr (fun _ _ => rfl), rows_test hrg] at hD'
          walk_at "mygo"
          refine ⟨X3.keeps fun a o e => kp a o (by simp) (F.keep a o e), ?_⟩
          refine wpAny_call (places_spec X' T' (fun a o e => kp a o (by simp) (F.keep a o (F3.keep a o e))) (by rw [depth_deeper]; omega) (by first | exact hh | rfl) hD' rfl (by rw [List.length_map]; omega) ?_)
          intro h5 tk5 l us n kp5 fl el hU
          dsimp only at kp5 fl ⊢
          walk_at "mygo"
          refine wpAny_newTuple ?_
          have up : ∀ a o, h.get? a = some o → h5.get? a = some o := fun a o e => kp5 a o (by simp) (kp a o (by simp) e)
          refine ⟨⟨_, _, rfl, fun a o e => Heap.get?_push_of_some _ (up a o e)⟩, _, ⟨x, t, _, l, us, n, rfl, rfl, rfl, hU⟩, fun q hq => ?_⟩
          rcases List.mem_cons.mp hq with rfl | hq
          · refine ⟨?_, Heap.get?_push_size _ rfl⟩
            cases z : h.get? h5.objs.size with
            | none => rfl
            | some o => exact absurd (Heap.lt_size (up _ _ z)) (Nat.lt_irrefl _)
          · rw [List.mem_singleton.mp hq]
            refine ⟨?_, Heap.get?_push_of_some _ el⟩
            cases z : h.get? l with
            | none => rfl
            | some o => have := kp _ _ (by simp) z; rw [fl] at this; cases this
      case d =>
        intro h4 tk4 D ys os nD hD hD' hG hos kp hE
        dsimp only at hD kp hos ⊢
        rw [List.filter_eq_self.mpr (fun _ _ => rfl)] at hG
        have ups : ∀ a o, s.heap.get? a = some o → h4.get? a = some o := fun a o e => kp a o (by simp) (F3.keep _ _ (hg' a o (by simp) e))
        have dn : ∀ D, h3.get? D = none → s.heap.get? D = none := fun D hD => by
          cases z : s.heap.get? D with
          | none => rfl
          | some o => have := F3.keep _ _ (hg' D o (by simp) z); rw [hD] at this; cases this
        refine k _ _ D ys nD os (fun a o _ e => ups a o e) (dn _ hD) hD' (fun q hq => ⟨(hos q hq).1, dn _ (hos q hq).2.1, (hos q hq).2.2⟩) ⟨by rw [hG.length, zw], fun i x hi => ?_⟩
        obtain ⟨t, e⟩ := strs_get hw hi
        obtain ⟨y, o, e1, ⟨x', t', a, l, us, n, ev, rfl, rfl, hU⟩, e3⟩ := gl_at hG e
        cases ev
        exact ⟨a, t, l, us, n, e1, e3 _ (.head _), e3 _ (.tail _ (.head _)), hU⟩
end
end
theorem off_Q2 : True := by
  w_top off
  k_with_none
  trivial
-- Q2
section
open PySem PySem.W PyProof.Rows PySem.Calls
open PySem.Sem (wp)
section
variable {M : Model} {A : Around} {E : Value → Shared → Prop} {s : Shared} {env : Env}
theorem c_execs_cons {st rest} {Q : Flow → Shared → Prop}
    (h : wpC M A (exec st env) (fun f s' => match f with | .next => wpC M A (execs rest env) Q E s' | f => Q f s') E s) :
    wpC M A (execs (st :: rest) env) Q E s := fun Γ p hΓ hc => by
  rw [execs_cons, Sem.wp_bind']
  refine Sem.wp_mono M Γ _ (fun f p' s' h' => ?_) (fun _ _ _ h' => h') _ _ (h Γ p hΓ hc)
  cases f <;> first | exact h' Γ p' hΓ hc | exact h'
theorem c_Return_some {e pos} {Q : Flow → Shared → Prop} (h : wpC M A (eval e env) (fun v => Q (.ret v)) E s) :
    wpC M A (exec (.Return (some e) pos) env) Q E s := fun Γ p hΓ hc => by
  simp only [exec_Return_some, Sem.wp_bind', Sem.wp_cmd_standAt, Sem.wp_pure']; exact h Γ _ hΓ hc
theorem c_Assign_Name {x pos' value pos} {Q : Flow → Shared → Prop}
    (h : wpC M A (eval value env) (fun v s₁ => wpAny M A (storeName env x v) (fun _ => Q .next) E s₁) E s)
    (hs : swapsWith value (some (.Name x pos')) pos.line env = pure false := by rfl) :
    wpC M A (exec (.Assign [.Name x pos'] value pos) env) Q E s := fun Γ p hΓ hc => by
  simp only [exec_Assign_Name env x pos' value pos hs, Sem.wp_bind', Sem.wp_cmd_standAt, Sem.wp_bindName, Sem.wp_pure']
  exact Sem.wp_mono M Γ _ (fun v _ s₁ h₁ => h₁ Γ _ hΓ) (fun _ _ _ h' => h') _ _ (h Γ _ hΓ hc)
theorem c_Assign_Tuple {elts k tpos value pos} {Q : Flow → Shared → Prop}
    (h : wpC M A (eval value env) (fun v s₁ => wpAny M A (assign (.Tuple elts k tpos) env v) (fun _ => Q .next) E s₁) E s)
    (hs : swapsWithSole [.Tuple elts k tpos] value pos.line env = pure false := by rfl)
    (hw : swappedStores [.Tuple elts k tpos] value env = pure none := by rfl) :
    wpC M A (exec (.Assign [.Tuple elts k tpos] value pos) env) Q E s := by
  rw [exec_Assign]
  refine c_bind (c_any (wpAny_standAt ?_))
  rw [hs]
  refine c_bind (c_pure ?_)
  rw [if_neg (by decide)]
  refine c_bind (c_mono h (fun v s₁ h₁ => ?_) fun _ _ x => x)
  rw [hw]
  refine c_bind (c_pure ?_)
  show wpC M A (do assignAll v [assign (.Tuple elts k tpos) env]; pure .next) Q E s₁
  exact c_bind (c_mono (c_any h₁) (fun _ _ x => c_pure x) fun _ _ x => x)
theorem c_callWith {P : Heap → Prop} {f : Value} {pos : Pos} {first : List Value} {args : List (Bool × Sem Value)} {keywords : List (Option Str × Sem Value)} {Q : Value → Shared → Prop}
    (hk : ∀ h, P h → ∃ k, (k = Keeper.frame ∨ k = Keeper.machine ∨ k = Keeper.boundFrame) ∧ Looks M h (keeperOf f) k)
    (h : wpAny M A (evalArgs f true args keywords) (fun a s₁ => P s₁.heap ∧ wpC M A (call f (first ++ a.pos) a.kw) Q E s₁) E s) : wpC M A (callWith pos f first args keywords) Q E s := by
  unfold callWith
  refine c_bind (c_holding (c_mono (c_any h) (fun a s₁ h₁ => c_bind (c_any (wpAny_standAt ?_))) fun _ _ x => x))
  obtain ⟨k, hk', L⟩ := hk _ h₁.1
  refine c_bind (c_any (L.here ?_))
  have tail : ∀ {t : Sem Value}, wpC M A t Q E s₁ → wpC M A (t >>= fun r => holding [r] point >>= fun _ => pure r) Q E s₁ :=
    fun ht => c_bind (c_mono ht (fun r s₂ hr => c_bind (c_any (wpAny_holding (wpAny_point (c_pure hr))))) fun _ _ x => x)
  have marked (mk : Value) : wpC M A (callMarked mk f (first ++ a.pos) a.kw) Q E s₁ := by unfold callMarked; exact c_keep h₁.2
  cases (args.any (·.1) || keywords.any (·.1.isNone)) <;> rcases hk' with rfl | rfl | rfl <;> dsimp only <;> first | exact tail h₁.2 | exact tail (marked _) | exact tail (c_operating h₁.2) | (split <;> first | exact tail h₁.2 | exact tail (marked _))
end
section
variable {prog : Program} {w : World} {A : Around} {s : Shared} {R : Result → Shared → Prop}
theorem cc_call_function {a : Addr} {args : Args} {o : Obj} {fd : FuncData} {body : List Stmt} (hroom : A.depth < recursionLimit)
    (ho : s.heap.get? a = some o) (hd' : o.data = .func fd) (hco : fd.scope.isCoroutine = false) (hgen : fd.scope.isGenerator = false) (hbody : fd.body = .stmts body) (hcd : s.heap.CodeRec fd.code fd.qualname)
    (h : wpC (model prog w) A.in1 (bindArgs fd args) (fun binds s₁ =>
      wpAny (model prog w) A.in1 (newFunctionEnv fd.scope fd.globals fd.closure binds (fd.qualname ++ ".<locals>.") (some a) fd.code none fd.builtins)
        (fun env s₂ => s₂.heap.NoLimit ∧ codeC (model prog w) A (.func body env) R s₂) (fun e s' => R (.error e) s') s₁) (fun e s' => R (.error e) s') s) :
    codeC (model prog w) A (.call (.ref a) args) R s := by
  refine cc_of_tree ?_
  show wpC _ A.in1 (callAny (.ref a) args) _ _ s
  simp only [callAny]
  refine c_bind (c_any (wpAny_load ho ?_))
  obtain ⟨c, oc, vs, tq, hc, hoc, hdc, hq⟩ := hcd
  simp only [hd', callFunction, hco, hgen, hbody, hc]
  rw [hc] at h
  refine c_bind (m := field (.ref c) 1) (c_any (wpAny_field hoc hdc hq (c_bind (c_pure ?_))))
  exact c_bind (c_mono h (fun binds s₁ h₁ => c_bind (c_mono (c_any h₁) (fun env s₂ h₂ => c_bind (c_any (wpAny_enterFrame h₂.1 hroom
    (c_pure (And.intro rfl h₂.2))))) fun _ _ h' => h')) fun _ _ h' => h')
end
section
variable {w : World} {A : Around} {s : Shared} {hb : Heap} {loose : List Str} {mean : ExcName → Option Value} {mg mb : Str → Option Value} {prog : Program} {K : Frag} {p : Program}
  {R : Result → Shared → Prop} {name qual : Str} {params : Arguments} {body : List Stmt} {scope : Scope} {dV kV doc pm cdv ct oc : Value} {an od : Option Addr} {osl : Array (Option Value)} {f : Addr} {args : Args} {binds : List (Str × Value)}
/-- enter, with the caller on the stack -/
theorem enterQ (X : K.In hb) (T : Top p loose mean mg mb hb) (S : hb.StaysIn s.heap) (D : List (Addr × Obj)) (hD : ∀ q ∈ D, s.heap.get? q.1 = some q.2 ∧ hb.get? q.1 = none)
    (ho : K.lookup f = some ⟨oc, od, .func (fnOf name qual params body scope dV kV doc pm an cdv ct), osl⟩) (hcd : codeIn K cdv qual = true) (hroom : A.depth < recursionLimit)
    (hbind : BindsTo s (fnOf name qual params body scope dV kV doc pm an cdv ct) args binds) (hloc : ∀ y ∈ binds, scope.names.lookup y.1 = some .local)
    (h : ∀ g L h₁, Fr g L h₁ (fun y => binds.reverse.lookup y) → News g L h₁ D → K.In g → Top p loose mean mg mb g → hb.StaysIn g →
      (∀ a o, a ∉ D.map (·.1) → s.heap.get? a = some o → g.get? a = some o) → s.heap.objs.size = L → (∀ q ∈ D, q.1 < L) →
      wpC (model prog w) (A.deeper (envOf qual scope L f cdv)) (execs body (envOf qual scope L f cdv))
        (fun fl s' => R (.ok (.ret (match fl with | .ret v => v | _ => .none))) s')
        (fun e s' => wpAny (model prog w) (A.deeper (envOf qual scope L f cdv)) (leaving (envOf qual scope L f cdv) e) (fun _ s'' => R (.error e) s'') (fun e' s'' => R (.error e') s'') s')
        { s with heap := h₁, toks := s.toks + binds.length })
    (hcell : ∀ x ∈ scope.names, x.2 ≠ .cell) (hco : scope.isCoroutine = false := by rfl) (hgen : scope.isGenerator = false := by rfl) (hk : scope.kind = .function := by rfl) : codeC (model prog w) A (.call (.ref f) args) R s := by
  refine cc_call_function (fd := fnX name qual params body scope [] dV kV doc pm an cdv ct) hroom (S _ _ (X _ _ ho)) rfl hco hgen rfl (codeRec_of (X.keeps S) hcd) (c_any (hbind _ _ _ _ ?_))
  refine wpAny_newFunctionEnv hcell hloc (fun h₁ hns₁ hsb₁ => ⟨(T.nolimit.keeps S).fresh _ hsb₁, cc_func ?_⟩) hk
  have hk₁ : ∀ b o, s.heap.get? b = some o → h₁.get? b = some o := fun b o e => hsb₁.extBut b o (Nat.ne_of_lt (Heap.lt_size e)) (Heap.get?_push_of_some _ e)
  have nm : ∀ b o, hb.get? b = some o → b ∉ D.map (·.1) := fun b o e q => by
    obtain ⟨q', hq, rfl⟩ := List.mem_map.mp q
    rw [(hD _ hq).2] at e; cases e
  have st : hb.StaysIn (hideAll s.heap (D.map (·.1))) := fun b o e => hideAll_get _ (S b o e) (nm b o e)
  exact h (hideAll s.heap (D.map (·.1))) s.heap.objs.size h₁ ⟨hns₁, fun b o e => hk₁ b o (of_hideAll _ e), Nat.le_of_eq (hideAll_size _ _)⟩ (fun q hq => ⟨hk₁ _ _ (hD q hq).1, Nat.ne_of_lt (Heap.lt_size (hD q hq).1), hideAll_none _ (List.mem_map_of_mem hq)⟩)
    (Frag.In.keeps (h' := hideAll s.heap (D.map (·.1))) X fun b o e => st b o e) (Top.keeps (h' := hideAll s.heap (D.map (·.1))) T fun b o e => st b o e) st (fun a o n e => hideAll_get _ e n) rfl (fun q hq => Heap.lt_size (hD q hq).1)
end
end
theorem off_P1 : True := by
  w_top off
  k_with_none
  trivial
-- P1
section
open PySem PySem.W PyProof.Rows PySem.Calls
theorem slot_map_next : Slot "map" "__next__" "map.__next__" :=
  .of (owner := "map") (n := "__next__") (by rw [typeLookup_type, builtinLookup_eq_fast]; kernel_rfl) (by decide +kernel) (by decide +kernel) (by decide +kernel)
    (by first | exact .inl (by decide +kernel) | exact .inr (by decide +kernel)) (by rw [isSubtype_type]; kernel_rfl)
theorem slot_map_iter : Slot "map" "__iter__" "map.__iter__" :=
  .of (owner := "map") (n := "__iter__") (by rw [typeLookup_type, builtinLookup_eq_fast]; kernel_rfl) (by decide +kernel) (by decide +kernel) (by decide +kernel)
    (by first | exact .inl (by decide +kernel) | exact .inr (by decide +kernel)) (by rw [isSubtype_type]; kernel_rfl)
theorem slot_map_init : Slot "map" "__init__" "object.__init__" :=
  .of (owner := "object") (n := "__init__") (by rw [typeLookup_type, builtinLookup_eq_fast]; kernel_rfl) (by decide +kernel) (by decide +kernel) (by decide +kernel)
    (by first | exact .inl (by decide +kernel) | exact .inr (by decide +kernel)) (by rw [isSubtype_type]; kernel_rfl)
theorem entry_map_next : entryFor table "map.__next__" = some Builtin.«map.__next__» := entryFor_of_tree (by kernel_rfl)
theorem entry_map_new : entryFor table "map.__new__" = some Builtin.«map.__new__» := entryFor_of_tree (by kernel_rfl)
theorem entry_map_iter : entryFor table "map.__iter__" = some Builtin.«dict_keyiterator.__iter__» :=
  entryFor_alias (id' := "dict_keyiterator.__iter__") (by kernel_rfl) (by first | rfl | decide +kernel | (unfold String.splitOn; simp +decide [String.splitOnAux])) (by decide +kernel) (by kernel_rfl)
theorem args_map_next (a : Value) : argsOk "map.__next__" ⟨[a], []⟩ := by unfold argsOk; kernel_rfl
theorem args_map_iter (a : Value) : argsOk "map.__iter__" ⟨[a], []⟩ := by unfold argsOk; kernel_rfl
theorem mro_map : mroOf (.type "map") = pure [.type "map", .type "object"] := by rw [mroOf_type]; kernel_rfl
theorem lookup_map_new : typeLookup (.type "map") "__new__" = pure (some (.builtin "map.__new__")) := by rw [typeLookup_type, builtinLookup_eq_fast]; kernel_rfl
theorem called_map : TypeCalled "map" "map.__new__" "object.__init__" :=
  ⟨by decide +kernel, by decide +kernel, ⟨_, _, mro_map⟩, madeBy_type mro_map lookup_map_new (by decide +kernel), by decide +kernel, by rw [isSubtype_type]; kernel_rfl, slot_map_init⟩
theorem typeCall_map_2 (a b : Value) : checkTypeCall "map" ⟨[a, b], []⟩ = pure () := by kernel_rfl
theorem newCall_map_2 (a b : Value) : checkBuiltinCall "map.__new__" ⟨[.type "map", a, b], []⟩ = pure () := by kernel_rfl
theorem sub_map : isSubtype (.type "map") (.type "map") = pure true := by rw [isSubtype_type]; kernel_rfl
theorem map_nolen : typeLookup (.type "map") "__len__" = pure none := by rw [typeLookup_type, builtinLookup_eq_fast]; kernel_rfl
theorem map_nohint : typeLookup (.type "map") "__length_hint__" = pure none := by rw [typeLookup_type, builtinLookup_eq_fast]; kernel_rfl
noncomputable abbrev mapH1 (h : Heap) (l : Addr) : Heap := h.push { cls := .type "list_iterator", data := .fields #[.ref l, .int 0 0] }
noncomputable abbrev mapH2 (h : Heap) (l : Addr) : Heap := (mapH1 h l).push { cls := .type "tuple", data := .seq #[.ref h.objs.size] }
noncomputable abbrev mapH3 (h : Heap) (l : Addr) (f : Value) : Heap := (mapH2 h l).push { cls := .type "map", data := .fields #[.ref (mapH1 h l).objs.size, f] }
theorem meets_map_new (l : Addr) (f : Value) (xs : Array Value) :
    Meets (Builtin.«map.__new__» ⟨[.type "map", f, .ref l], []⟩) (fun _ R s => s.heap.IsList l xs ∧ R (.ok (.ret (.ref (mapH2 s.heap l).objs.size))) { s with heap := mapH3 s.heap l f }) :=
  .of_wp fun prog w A R s h => by
    obtain ⟨hp, g, d, tk, os⟩ := s; obtain ⟨hl1, h⟩ := h
    have hsub := sub_map
    have hL1 : Heap.IsList (Shared.heap ⟨hp, g, d, tk, os⟩) l xs := hl1
    wp_walk using wpAny_pyIter_list hL1
    exact ⟨_, rfl, h⟩
noncomputable abbrev IsMap (h : Heap) (z TI : Addr) (f : Value) : Prop := h.get? z = some { cls := .type "map", data := .fields #[.ref TI, f] }
noncomputable abbrev IsOne (h : Heap) (T : Addr) (a : Value) : Prop := h.get? T = some { cls := .type "tuple", data := .seq #[a] }
section
variable {prog : Program} {w : World} {A : Around} {E : Value → Shared → Prop} {s : Shared}
theorem call_map {l : Addr} {f : Value} {xs : Array Value} {Q : Value → Shared → Prop} (hl : s.heap.IsList l xs)
    (h : ∀ h', IsMap h' (s.heap.objs.size + 2) (s.heap.objs.size + 1) f → IsOne h' (s.heap.objs.size + 1) (.ref s.heap.objs.size) → h'.IsListIter s.heap.objs.size l 0 → h'.objs.size = s.heap.objs.size + 3 →
      (∀ c o, s.heap.get? c = some o → h'.get? c = some o) → Q (.ref (s.heap.objs.size + 2)) { s with heap := h' }) :
    wpAny (model prog w) A (call (.type "map") [f, .ref l]) Q E s := by
  refine callType_new called_map (by decide) (typeCall_map_2 _ _) (newCall_map_2 _ _) (fun obj => F.args_object_init_3 obj _ _) entry_map_new
    (meets_map_new l f xs) ⟨hl, ?_⟩
  have z1 : (mapH1 s.heap l).objs.size = s.heap.objs.size + 1 := Heap.size_push ..
  have z2 : (mapH2 s.heap l).objs.size = s.heap.objs.size + 2 := by rw [Heap.size_push, z1]
  have z3 : (mapH3 s.heap l f).objs.size = s.heap.objs.size + 3 := by rw [Heap.size_push, z2]
  have g3 : (mapH3 s.heap l f).get? (mapH2 s.heap l).objs.size = some _ := Heap.get?_push_size _ rfl
  have g2 : (mapH3 s.heap l f).get? (mapH1 s.heap l).objs.size = some _ := Heap.get?_push_of_some _ (Heap.get?_push_size _ rfl)
  have g1 : (mapH3 s.heap l f).get? s.heap.objs.size = some _ := Heap.get?_push_of_some _ (Heap.get?_push_of_some _ (Heap.get?_push_size _ rfl))
  show _ ∧ _
  rw [z1, z2] at g3
  rw [z1] at g2
  rw [z2]
  exact ⟨⟨_, g3, rfl⟩, h _ g3 g2 ⟨_, g1, rfl, rfl⟩ z3 fun c o x => Heap.get?_push_of_some _ (Heap.get?_push_of_some _ (Heap.get?_push_of_some _ x))⟩
end
end
theorem off_P2 : True := by
  w_top off
  k_with_none
  trivial
-- P2
section
open PySem PySem.W PyProof.Rows PySem.Calls
section
variable {prog : Program} {w : World} {A : Around} {E : Value → Shared → Prop} {s : Shared} {z TI i1 l : Addr} {k : Nat} {xs : Array Value} {x : Str} {t : Tok}
theorem map_next_item {Q : Value → Shared → Prop} (hzi : i1 ≠ z) (hz : IsMap s.heap z TI (.builtin "str.strip")) (hTI : IsOne s.heap TI (.ref i1)) (h1 : s.heap.IsListIter i1 l k) (hl : s.heap.IsList l xs) (hx : xs[k]? = some (.str x t)) (hsz : x.length ≤ sizeLine)
    (hQ : ∀ h' tk t', h'.IsListIter i1 l (k + 1) → Heap.SameBut i1 s.heap h' → Q (.str (Txt.strip x) t') { s with heap := h', toks := tk }) :
    wpAny (model prog w) A (Builtin.«map.__next__» ⟨[.ref z], []⟩) (fun fin s' => ∃ v, fin = .done (.ret v) ∧ Q v s') E s := by
  show wpAny _ _ (field (.ref z) 0 >>= _) _ _ _
  refine wpAny_bind (wpAny_field hz rfl (x := .ref TI) rfl ?_)
  refine wpAny_bind (wpAny_seqItems hTI rfl ?_)
  dsimp only
  refine wpAny_bind ?_
  simp only [List.forIn_toArray, List.forIn_cons, List.forIn_nil]
  refine wpAny_bind (wpAny_bind (wpAny_holding ?_))
  refine wpAny_nextOf_list_item h1 hl hx fun h₂ h1₂ hs₂ => ?_
  have hz2 : IsMap h₂ z TI (.builtin "str.strip") := hs₂.extBut _ _ (Ne.symm hzi) hz
  refine wpAny_pure (wpAny_pure ?_)
  refine wpAny_bind (wpAny_field hz2 rfl (x := .builtin "str.strip") rfl ?_)
  refine wpAny_bind (wpAny_holding ?_)
  refine SC.strip (fun t' kk => ?_) hsz
  refine wpAny_bind (wpAny_letGo ?_)
  exact wpAny_pure ⟨_, rfl, hQ h₂ kk t' h1₂ hs₂⟩
theorem map_next_end {Q : Fin → Shared → Prop} (hh : A.handled = none) (hz : IsMap s.heap z TI (.builtin "str.strip")) (hTI : IsOne s.heap TI (.ref i1)) (h1 : s.heap.IsListIter i1 l k) (hl : s.heap.IsList l xs) (hx : xs[k]? = none)
    (hE : ∀ h' e, (∀ c o, c ≠ i1 → s.heap.get? c = some o → h'.get? c = some o) → (∃ o, h'.get? e = some o ∧ o.cls = .type "StopIteration") → E (.ref e) { s with heap := h' }) :
    wpAny (model prog w) A (Builtin.«map.__next__» ⟨[.ref z], []⟩) Q E s := by
  show wpAny _ _ (field (.ref z) 0 >>= _) _ _ _
  refine wpAny_bind (wpAny_field hz rfl (x := .ref TI) rfl ?_)
  refine wpAny_bind (wpAny_seqItems hTI rfl ?_)
  dsimp only
  refine wpAny_bind ?_
  simp only [List.forIn_toArray, List.forIn_cons, List.forIn_nil]
  refine wpAny_bind (wpAny_bind (wpAny_holding ?_))
  exact wpAny_nextOf_list_end hh h1 hl hx fun h₂ e hs₂ he => hE h₂ e hs₂ he
theorem pyNext_map_item {Q : Option Value → Shared → Prop} (hzi : i1 ≠ z) (hz : IsMap s.heap z TI (.builtin "str.strip")) (hTI : IsOne s.heap TI (.ref i1)) (h1 : s.heap.IsListIter i1 l k) (hl : s.heap.IsList l xs) (hx : xs[k]? = some (.str x t)) (hsz : x.length ≤ sizeLine)
    (hQ : ∀ h' tk t', h'.IsListIter i1 l (k + 1) → Heap.SameBut i1 s.heap h' → Q (some (.str (Txt.strip x) t')) { s with heap := h', toks := tk }) : wpAny (model prog w) A (pyNext (.ref z)) Q E s := by
  have hT : s.TypeIs (.ref z) "map" := ⟨_, hz, rfl⟩
  unfold pyNext
  exact wpAny_bind (wpAny_attempt (wpAny_callSpecial?_slot (name := Str.ofString "__next__") hT slot_map_next
    (wpAny_call_entry slot_map_next hT entry_map_next (map_next_item hzi hz hTI h1 hl hx hsz fun h' tk t' a b => wpAny_pure (hQ h' tk t' a b)) (args_map_next _))))
theorem pyNext_map_end {Q : Option Value → Shared → Prop} (hh : A.handled = none) (hz : IsMap s.heap z TI (.builtin "str.strip")) (hTI : IsOne s.heap TI (.ref i1)) (h1 : s.heap.IsListIter i1 l k) (hl : s.heap.IsList l xs) (hx : xs[k]? = none)
    (hQ : ∀ h', (∀ c o, c ≠ i1 → s.heap.get? c = some o → h'.get? c = some o) → Q none { s with heap := h' }) : wpAny (model prog w) A (pyNext (.ref z)) Q E s := by
  have hT : s.TypeIs (.ref z) "map" := ⟨_, hz, rfl⟩
  unfold pyNext
  refine wpAny_bind (wpAny_attempt (wpAny_callSpecial?_slot (name := Str.ofString "__next__") hT slot_map_next
    (wpAny_call_entry slot_map_next hT entry_map_next (map_next_end hh hz hTI h1 hl hx fun h' e hk he => ?_) (args_map_next _))))
  obtain ⟨o, ho, hc⟩ := he
  refine wpAny_bind (wpAny_isInstance (T := "StopIteration") (b := true) ⟨o, ho, hc⟩ isSubtype_stop ?_)
  exact wpAny_pure (hQ _ hk)
theorem pyIter_map {f : Value} {Q : Value → Shared → Prop} (hz : IsMap s.heap z TI f) (h : Q (.ref z) s) : wpAny (model prog w) A (pyIter (.ref z)) Q E s := by
  have hT : s.TypeIs (.ref z) "map" := ⟨_, hz, rfl⟩
  refine wpAny_pyIter_slot hT slot_map_iter (wpAny_call_entry slot_map_iter hT entry_map_iter ?_ (args_map_iter _))
  show wpAny _ _ (ret (.ref z)) _ _ s
  exact wpAny_pure ⟨_, rfl, "map", _, hT, slot_map_next.lookup, h⟩
theorem walks_map (hh : A.handled = none) (hzi : i1 ≠ z) (hTi : TI ≠ i1) (hli : l ≠ i1) {vs : List Value} {ws : List Str} (hs : StrsAre vs ws) (hz : ∀ x ∈ ws, x.length ≤ sizeLine) :
    Walks prog w A z [z, TI, i1, l] [i1] vs.length (fun i v => ∃ x t, ws[i]? = some x ∧ v = .str (Txt.strip x) t)
      (fun i h => IsMap h z TI (.builtin "str.strip") ∧ IsOne h TI (.ref i1) ∧ h.IsListIter i1 l i ∧ h.IsList l vs.toArray) where
  sub := fun b hb => by simp at hb; simp [hb]
  frame := fun i h h' st hk => ⟨hk z (by simp) _ st.1, hk TI (by simp) _ st.2.1, st.2.2.1.at fun o e => hk i1 (by simp) o e, st.2.2.2.at fun o e => hk l (by simp) o e⟩
  item := fun i s Q E hi st hQ => by
    have hiw : i < ws.length := by rw [← strs_len hs]; exact hi
    obtain ⟨t, e⟩ := strs_get hs (List.getElem?_eq_getElem hiw)
    refine pyNext_map_item hzi st.1 st.2.1 st.2.2.1 st.2.2.2 (by simpa using e) (hz _ (List.getElem_mem hiw)) fun h' tk t' a b => ?_
    exact hQ _ h' tk ⟨_, t', List.getElem?_eq_getElem hiw, rfl⟩ ⟨b.extBut _ _ (Ne.symm hzi) st.1, b.extBut _ _ hTi st.2.1, a, st.2.2.2.extBut b.extBut hli⟩ fun c o hc e => b.extBut c o (fun q => hc (by simp [q])) e
  done := fun s Q E st hQ => pyNext_map_end hh st.1 st.2.1 st.2.2.1 st.2.2.2 (by simp) fun h' hk => hQ h' s.toks fun c o hc e => hk c o (fun q => hc (by simp [q])) e
  self := fun i s Q E st hQ => pyIter_map st.1 hQ
end
end
theorem off_P3 : True := by
  w_top off
  k_with_none
  trivial
-- P3
section
open PySem PySem.W PyProof.Rows PySem.Calls
section
variable {prog : Program} {w : World} {A : Around} {E : Value → Shared → Prop} {s : Shared} {I : Addr} {fp wr : List Addr} {G : Array GenState → Array GenState → Prop} {n : Nat} {P : Nat → Value → Prop} {St : Nat → Shared → Prop}
theorem collect_map {Q : List Value → Shared → Prop} (W : WalksS prog w A.in1 I fp wr G n P St) (hT : ∀ i s, St i s → s.TypeIs (.ref I) "map") (hst : St 0 s) (hfp : ∀ b ∈ fp, b < s.heap.objs.size) (hI : I ∈ fp)
    (hQ : ∀ s' acc, Moved wr G s s' → ItemsOf P acc n → Q acc.toList s') (hn : n ≤ sizeLine := by size_fits) : wpAny (model prog w) A (collect (.ref I)) Q E s := by
  have hSf : s.heap.objs.size ∉ fp := fun hm => Nat.lt_irrefl _ (hfp _ hm)
  have hSI : s.heap.objs.size ≠ I := fun e => hSf (e ▸ hI)
  unfold collect
  refine wpAny_bind (wpAny_runValue (codeAny_builtin F.entry_proto_collect ?_))
  rw [Around.under_plainId F.plain_proto_collect _]
  show wpAny _ A.in1 (newList [] >>= fun l => again (.builtin "list.__iadd__" ⟨[l, .ref I], []⟩)) _ _ s
  refine wpAny_bind (wpAny_newObj_type ?_)
  refine wpAny_pure ⟨plainId_quiet F.plain_list_iadd _, codeAny_builtin F.entry_list_iadd ?_⟩
  rw [Around.under_plainId F.plain_list_iadd _]
  have hst₁ := W.frame 0 s (s.heap.push { cls := .type "list", data := .seq ([] : List Value).toArray }) s.toks hst (Nat.le_refl _) fun b _ o e => Heap.get?_push_of_some _ e
  show wpAny _ A.in1 (Builtin.List.listExtendWith (.ref s.heap.objs.size) (.ref I) (.ref s.heap.objs.size)) _ _ _
  unfold Builtin.List.listExtendWith
  refine wpAny_bind (wpAny_typeOf (hT 0 _ hst₁) ?_)
  have h1 : Builtin.List.listSameRef (.ref s.heap.objs.size) (.ref I) = false := by simp [Builtin.List.listSameRef, hSI]
  have h2 : (Value.type "map" == Value.type "list") = false := by decide
  have h3 : (Value.type "map" == Value.type "tuple") = false := by decide
  simp only [h1, h2, h3, Bool.or_false, Bool.false_eq_true, if_false]
  refine wpAny_bind (W.self 0 _ _ _ hst₁ ?_)
  refine wpAny_bind (wpAny_holding ?_)
  unfold Builtin.List.listLengthHint
  refine wpAny_bind (wpAny_specialOf (hT 0 _ hst₁) map_nolen ?_)
  show wpAny _ A.in1 (specialOf (Value.ref I) (Str.ofString "__length_hint__") >>= _) _ _ _
  refine wpAny_bind (wpAny_specialOf (hT 0 _ hst₁) map_nohint ?_)
  refine wpAny_pure ?_
  show wpAny _ A.in1 (rule "list.extend.makes-room" >>= fun _ => Builtin.List.listTouch (.ref s.heap.objs.size) >>= fun _ =>
    again (.builtin "list.extend.loop" ⟨[.ref s.heap.objs.size, .ref I, .ref s.heap.objs.size], []⟩)) _ _ _
  refine wpAny_bind (wpAny_rule ?_)
  have hS₁ : (s.heap.push { cls := .type "list", data := .seq ([] : List Value).toArray }).get? s.heap.objs.size = some { cls := .type "list", data := .seq ([] : List Value).toArray } := Heap.get?_push_size _ rfl
  refine wpAny_bind ?_
  show wpAny _ A.in1 (updateSeq s.heap.objs.size (·.push .none) >>= fun _ => updateSeq s.heap.objs.size (·.pop)) _ _ _
  refine wpAny_bind (wpAny_updateSeq hS₁ rfl ?_)
  have hS₂ := Heap.get?_update_self (Obj.mapSeq (·.push Value.none)) hS₁ rfl
  refine wpAny_updateSeq hS₂ rfl ?_
  have hS₃ := Heap.get?_update_self (Obj.mapSeq (·.pop)) hS₂ rfl
  have oth : ∀ b o, b ≠ s.heap.objs.size → (s.heap.push { cls := .type "list", data := .seq ([] : List Value).toArray }).get? b = some o →
      (((s.heap.push { cls := .type "list", data := .seq ([] : List Value).toArray }).update s.heap.objs.size (Obj.mapSeq (·.push Value.none))).update s.heap.objs.size (Obj.mapSeq (·.pop))).get? b = some o :=
    fun b o hb e => (Heap.get?_update_other _ _ (Ne.symm hb)).trans ((Heap.get?_update_other _ _ (Ne.symm hb)).trans e)
  refine wpAny_pure ⟨plainId_quiet F.plain_extend_loop _, codeAny_extend_loopS W hn _ hSf _ n 0 _ _ _ rfl (Nat.zero_le _)
    (W.frame 0 ({ s with heap := s.heap.push { cls := .type "list", data := .seq ([] : List Value).toArray } } : Shared) _ s.toks hst₁ (Nat.le_refl _) fun b hb o e => oth b o (fun h => hSf (h ▸ hb)) e) hS₃ (ItemsOf.nil P) fun s' acc' c' hm hS' hacc => ?_⟩
  show wpAny _ A (load s.heap.objs.size >>= _) _ _ s'
  refine wpAny_bind (wpAny_load hS' ?_)
  refine wpAny_pure (hQ s' acc' (Moved.drop_new (o := { cls := .type "list", data := .seq ([] : List Value).toArray }) (tk := s.toks) (Moved.trans W.gtrans ((Moved.refl W.grefl).then_heap (by first | exact Nat.le_refl _ | exact Nat.le_succ _ | omega) fun b o hb e => ?_) hm) (Nat.le_refl _)) hacc)
  exact oth b o (fun h => hb (h ▸ List.mem_cons_self)) e
end
end
theorem off_P4 : True := by
  w_top off
  k_with_none
  trivial
-- P4
section
open PySem PySem.W PyProof.Rows PySem.Calls Builtin Builtin.ObjectAttr Builtin.Getset_descriptor
section
variable {w : World} {A : Around} {E : Value → Shared → Prop} {s : Shared} {K : Frag} {name : Str} {T id : String}
theorem ty_val {expr : Bool} {Q : Value → Shared → Prop} (X : K.In s.heap) (hstub : opaqueClassAbove (.type T) = pure none) (ht : typeOf (.type T) = pure (.type "type")) (e : findCls K (.type T) (.type "type") name = some (.val (.builtin id))) (hh : handedIn (.builtin id) = true)
    (h : Q (.builtin id) { s with toks := s.toks + 1 }) : wpAny (model Challenge.rw_mq0106_01.row.prog w) A (getAttr (.type T) name expr) Q E s :=
  cls_open X (Looks.of_pure hstub) (Looks.of_pure ht) (show findIn K (.type "type") "__getattribute__" = some (some (.builtin "type.__getattribute__")) from type_tga) (looks_hook X (r := none) (by rfl)) (by show subIn K _ _ = _; rfl) e (wpAny_pure (by show wpAny _ _ (handedOut (.builtin id)) _ _ _; rw [handedOut_of hh]; exact wpAny_pure h))
theorem ty_method {pl : Sem Bool} {Q : Value × List Value → Shared → Prop} (X : K.In s.heap) (hstub : opaqueClassAbove (.type T) = pure none) (ht : typeOf (.type T) = pure (.type "type")) (e : findCls K (.type T) (.type "type") name = some (.val (.builtin id))) (hh : handedIn (.builtin id) = true)
    (h : Q (.builtin id, []) { s with toks := s.toks + 1 }) : wpAny (model Challenge.rw_mq0106_01.row.prog w) A (getMethod (.type T) name pl) Q E s := by
  unfold getMethod specialOf
  have hg : findIn K (.type "type") "__getattribute__" = some (some (.builtin "type.__getattribute__")) := type_tga
  refine wpAny_bind (wpAny_bind ((Looks.of_pure ht).here ((looks_findIn X hg).here ?_)))
  dsimp only
  rw [if_pos canon_tga]
  exact wpAny_bind (ty_val X hstub ht e hh (wpAny_pure h))
end
theorem stub_tuple : opaqueClassAbove (.type "tuple") = pure none := by unfold opaqueClassAbove; dsimp only; rw [show Manifest.isStub "tuple" = false by decide +kernel]; rfl
theorem stub_str : opaqueClassAbove (.type "str") = pure none := by unfold opaqueClassAbove; dsimp only; rw [show Manifest.isStub "str" = false by decide +kernel]; rfl
theorem ty_tuple : typeOf (.type "tuple") = pure (.type "type") := by first | rfl | kernel_rfl
theorem ty_str : typeOf (.type "str") = pure (.type "type") := by first | rfl | kernel_rfl
theorem tn_entry : entryFor table "tuple.__new__" = some Builtin.«tuple.__new__» := entryFor_of_tree (by kernel_rfl)
theorem tn_kind : builtinKind "tuple.__new__" = some .builtinFn := by decide +kernel
theorem tn_split : splitId "tuple.__new__" = some ("tuple", "__new__") := by decide +kernel
theorem tn_args (a b : Value) : argsOk "tuple.__new__" ⟨[a, b], []⟩ := by unfold argsOk; kernel_rfl
section
variable {w : World} {h : Heap}
theorem tn_find (X : (hd.heap_1 w.params).In h) : findCls (hd.heap_1 w.params) (.type "tuple") (.type "type") "__new__" = some (.val (.builtin "tuple.__new__")) := by
  revert X; k_fill; intro X
  kernel_rfl
theorem ss_find (X : (hd.heap_1 w.params).In h) : findCls (hd.heap_1 w.params) (.type "str") (.type "type") "strip" = some (.val (.builtin "str.strip")) := by
  revert X; k_fill; intro X
  kernel_rfl
theorem pr_isType (X : (hd.heap_1 w.params).In h) : Looks (model Challenge.rw_mq0106_01.row.prog w) h (isType (.ref 203)) true := by
  revert X; k_fill; intro X
  exact Looks.of_peek X (by kernel_rfl)
theorem pr_sub (X : (hd.heap_1 w.params).In h) : Looks (model Challenge.rw_mq0106_01.row.prog w) h (isSubtype (.ref 203) (.type "tuple")) true := by
  revert X; k_fill; intro X
  exact looks_mroIn X (by kernel_rfl)
theorem pr_self (X : (hd.heap_1 w.params).In h) : Looks (model Challenge.rw_mq0106_01.row.prog w) h (isSubtype (.ref 203) (.ref 203)) true := by
  revert X; k_fill; intro X
  exact looks_mroIn X (by kernel_rfl)
theorem pr_static (X : (hd.heap_1 w.params).In h) : Looks (model Challenge.rw_mq0106_01.row.prog w) h (Bind.staticBase (.ref 203)) (.type "tuple") := by
  revert X; k_fill; intro X
  exact Looks.of_peek X (by kernel_rfl)
theorem pr_madeT (X : (hd.heap_1 w.params).In h) : Looks (model Challenge.rw_mq0106_01.row.prog w) h (Bind.madeBy (.type "tuple")) (some "tuple.__new__") := by
  revert X; k_fill; intro X
  exact Looks.of_peek X (by kernel_rfl)
theorem pr_made (X : (hd.heap_1 w.params).In h) : Looks (model Challenge.rw_mq0106_01.row.prog w) h (Bind.madeBy (.ref 203)) none := by
  revert X; k_fill; intro X
  exact Looks.of_peek X (by kernel_rfl)
theorem pr_init (X : (hd.heap_1 w.params).In h) : Looks (model Challenge.rw_mq0106_01.row.prog w) h (typeLookup (.ref 203) "__init__") (some (.builtin "object.__init__")) := by
  revert X; k_fill; intro X
  exact looks_findIn X (by kernel_rfl)
theorem pr_hasDel (X : (hd.heap_1 w.params).In h) : Looks (model Challenge.rw_mq0106_01.row.prog w) h (classHasDel 203) false := by
  revert X; k_fill; intro X
  exact Looks.of_peek X (by kernel_rfl)
theorem pr_obj (X : (hd.heap_1 w.params).In h) : ∃ oc od cd sl, h.get? 203 = some ⟨oc, od, .cls cd, sl⟩ ∧ cd.hasDel = false := by
  revert X; k_fill; intro X
  exact ⟨_, _, _, _, X _ _ (by k_is), by kernel_rfl⟩
theorem pr_mro (X : (hd.heap_1 w.params).In h) : Looks (model Challenge.rw_mq0106_01.row.prog w) h (mroOf (.ref 203)) [.ref 203, .ref 180, .type "tuple", .type "object"] := by
  revert X; k_fill; intro X
  exact Looks.of_peek X (by kernel_rfl)
end
noncomputable abbrev pairObj (dp : Addr) (a b : Value) : Obj := { cls := .ref 203, dict := some dp, data := .seq #[a, b] }
section
variable {w : World} {A : Around} {E : Value → Shared → Prop} {R : Result → Shared → Prop} {h : Heap} {g : Array GenState} {d : Drawn} {tk : Nat} {os : OsState}
theorem tn_run {t : Addr} {a b : Value} (X : (hd.heap_1 w.params).In h) (ht : h.get? t = some { cls := .type "tuple", data := .seq #[a, b] })
    (hq : ∀ h' p dp, (∀ c o, h.get? c = some o → h'.get? c = some o) → h.get? p = none → h'.get? p = some (pairObj dp a b) → h'.get? dp = some emptyDict → R (.ok (.ret (.ref p))) ⟨h', g, d, tk, os⟩) :
    codeAny (model Challenge.rw_mq0106_01.row.prog w) A (.call (.builtin "tuple.__new__") ⟨[.ref 203, .ref t], []⟩) R ⟨h, g, d, tk, os⟩ := by
  refine codeAny_call_builtin_code (Code.quiet_builtin _ (by decide +kernel)) ?_
  have F1 := pr_static X
  have F2 := pr_madeT X
  have F3 := pr_sub X
  have F4 := pr_mro X
  have F5 := pr_isType X
  have F7 := pr_init X
  have ha := tn_args (.ref 203) (.ref t)
  simp only [checkBuiltinCall, tn_kind, tn_split]
  have here : Looks (model Challenge.rw_mq0106_01.row.prog w) h (Bind.madeHere "tuple.__new__" (.ref 203)) () := F1.andThen (F2.andThen (Looks.of_pure (by simp only [Option.map_some, bne_self_eq_false, Bool.false_eq_true, if_false])))
  cases hsig : Manifest.signature? "tuple.__new__" with
  | none =>
    exfalso
    have : (Manifest.signature? "tuple.__new__").isSome = true := by kernel_rfl
    rw [hsig] at this; cases this
  | some sig =>
    simp only [argsOk, hsig] at ha
    have ha2 : Bind.checkArgs "tuple.__new__" sig ⟨[.ref 203, .ref t], []⟩ = pure () := ha
    repeat (first | simp only [bne_self_eq_false, beq_self_eq_true, Bool.not_true, Bool.false_eq_true, if_false, if_true] | (rw [ha2]) | lk)
    refine codeAny_builtin tn_entry ?_
    unfold Builtin.«tuple.__new__»
    have coll : ∀ {A : Around} {E : Value → Shared → Prop} {Q : List Value → Shared → Prop}, (∀ h', (∀ b o, h.get? b = some o → h'.get? b = some o) → Q [a, b] ⟨h', g, d, tk, os⟩) → wpAny (model Challenge.rw_mq0106_01.row.prog w) A (collect (.ref t)) Q E ⟨h, g, d, tk, os⟩ :=
      fun q => wpAny_collect_seq (s := ⟨h, g, d, tk, os⟩) t (.inr rfl) ht rfl rfl q (by rw [sizeLine_eq]; exact (by decide : 2 ≤ 16777216))
    repeat (first | simp only [beq_self_eq_true, Bool.not_true, Bool.false_eq_true, if_false, if_true] | (with_reducible refine coll (fun h1 k1 => ?_)) | lk)
    obtain ⟨oc, od, cd, sl, hC, hdel⟩ := pr_obj X
    have hC3 : ((h1.push { cls := Value.type "dict", data := Data.dict #[] }).push { cls := Value.ref 203, dict := some h1.objs.size, data := Data.seq #[a, b] }).get? 203 = some ⟨oc, od, .cls cd, sl⟩ := Heap.get?_push_of_some _ (Heap.get?_push_of_some _ (k1 _ _ hC))
    refine wpAny_load hC3 ?_
    dsimp only
    rw [hdel]
    refine wpAny_pure ?_
    rw [if_neg (by decide)]
    refine wpAny_pure (wpAny_pure ?_)
    have hz : (h1.push { cls := Value.type "dict", data := Data.dict #[] }).objs.size = h1.objs.size + 1 := Heap.size_push _ _
    refine hq _ _ h1.objs.size (fun c o e => Heap.get?_push_of_some _ (Heap.get?_push_of_some _ (k1 _ _ e))) ?_ (Heap.get?_push_size _ rfl) (Heap.get?_push_of_some _ (Heap.get?_push_size _ rfl))
    cases z : h.get? (h1.push { cls := Value.type "dict", data := Data.dict #[] }).objs.size with
    | none => rfl
    | some o => have := Heap.lt_size (k1 _ _ z); rw [hz] at this; exact absurd this (Nat.not_lt.mpr (Nat.le_succ _))
end
end
theorem off_P5 : True := by
  w_top off
  k_with_none
  trivial
-- P5
section
open PySem PySem.W PyProof.Rows PySem.Calls Builtin Builtin.ObjectAttr Builtin.Getset_descriptor
theorem kw_P5_1 : True := by
  k_with_none
  k_with "mytree" => ((first | (with_reducible show wpAny _ _ _ _ _ _) | (with_reducible show ite _ _ _)); (fail_if_success (with_reducible show wpAny _ _ (PySem.getMethod (Value.type _) _ _) _ _ _)); (fail_if_success (with_reducible show wpAny _ _ (PySem.call (Value.builtin "tuple.__new__") _) _ _ _)))
  k_with "mygo" => (repeat' (first | (k_unfold; (try dsimp only)) | (walk_at "mytree"; walk1) | (dsimp only; walk_at "mytree"; walk1) | fail "no step"))
  trivial
theorem hi_tn : handedIn (.builtin "tuple.__new__") = true := by kernel_rfl
theorem hi_ss : handedIn (.builtin "str.strip") = true := by kernel_rfl
section
variable {w : World} {A : Around} {s : Shared} {hb : Heap} {loose : List Str} {mean : ExcName → Option Value} {mg mb : Str → Option Value} {R : Result → Shared → Prop}
theorem new_spec (X : (hd.heap_1 w.params).In hb) (T : Top topProg loose mean mg mb hb) (S : hb.StaysIn s.heap) (hroom : A.depth < 900) {a b : Str} {ta tb : Tok}
    (k : ∀ h' tk p dp, Kp [] s.heap h' → s.heap.get? p = none → h'.get? p = some (pairObj dp (.str a ta) (.str b tb)) → R (.ok (.ret (.ref p))) { s with heap := h', toks := tk }) :
    codeAny (model Challenge.rw_mq0106_01.row.prog w) A (.call (.ref 130) ⟨[.ref 203, .str a ta, .str b tb], []⟩) R s := by
  have tnf := tn_find X
  revert X tnf; k_fill; intro X tnf
  refine' enter (binds := [(PySem.Str.ofString "_cls", Value.ref 203), (PySem.Str.ofString "name", Value.str a ta), (PySem.Str.ofString "value", Value.str b tb)]) X T S [] (by simp) ?k6 ?k7 ?k8 ?k9 ?kB ?_ ?c2 ?c3 ?c4 ?c5
  case k6 => k_is
  case k7 => k_is
  case k8 => k_room
  case k9 => exact BindsTo.of_eq rfl
  case kB => exact locs rfl
  case c2 => decide
  case c3 => exact rfl
  case c4 => exact rfl
  case c5 => exact rfl
  intro g' L' h' F' N' X' T' S' hg' hL' hl'
  (try dsimp only)
  show wpAny _ _ _ _ _ _
  k_fold
  clear X T S
  walk_at "mygo"
  refine' ty_method (T := "tuple") (id := "tuple.__new__") (K := hd.heap_1 w.params) ?m1 ?m2 ?m3 ?m4 ?m5 ?_
  case m1 => exact X'.keeps F'.keep
  case m2 => exact stub_tuple
  case m3 => exact ty_tuple
  case m4 => exact tnf
  case m5 => exact hi_tn
  dsimp only
  walk_at "mygo"
  rename Fr _ _ _ _ => F2
  rename News _ _ _ _ => N2
  refine wpAny_call ?_
  refine tn_run (X'.keeps F2.keep) (News.get N2 (.head _)) fun h3 p dp k3 fp hp _ => ?_
  have up : Kp [] s.heap _ := kp_of F2 hg'
  refine k h3 _ p dp (up.trans (Kp.of_stays k3)) ?_ hp
  cases z : s.heap.get? p with
  | none => rfl
  | some o => rw [up p o List.not_mem_nil z] at fp; cases fp
end
end
theorem off_P6 : True := by
  w_top off
  k_with_none
  trivial
-- P6
section
open PySem PySem.W PyProof.Rows PySem.Calls Builtin Builtin.ObjectAttr Builtin.Getset_descriptor
theorem oi_kind : builtinKind "object.__init__" = some .slot := by decide +kernel
theorem oi_split : splitId "object.__init__" = some ("object", "__init__") := by decide +kernel
theorem oi_entry : entryFor table "object.__init__" = some Builtin.«object.__init__» := entryFor_of_tree (by kernel_rfl)
theorem oi_bind (self : Value) : bindSpecial (.builtin "object.__init__") self = pure (.builtin "object.__init__", [self]) :=
  (Slot.of (T := "tuple") (name := "__init__") (owner := "object") (n := "__init__") (by rw [typeLookup_type, builtinLookup_eq_fast]; kernel_rfl) (by decide +kernel) (by decide +kernel) (by decide +kernel)
    (.inl (by decide +kernel)) (by rw [isSubtype_type]; kernel_rfl)).bind self
theorem tc_args3 (a b c : Value) : argsOk "type.__call__" ⟨[a, b, c], []⟩ := by unfold argsOk; kernel_rfl
theorem tc_args2 (a b : Value) : argsOk "type.__call__" ⟨[a, b], []⟩ := by unfold argsOk; kernel_rfl
section
variable {w : World} {h : Heap}
theorem pn_call (X : (hd.heap_1 w.params).In h) : Looks (model Challenge.rw_mq0106_01.row.prog w) h (specialOf (.ref 203) "__call__") (some (.builtin "type.__call__")) := by
  revert X; k_fill; intro X
  exact looks_specialIn X (by kernel_rfl)
theorem pn_typ (X : (hd.heap_1 w.params).In h) : Looks (model Challenge.rw_mq0106_01.row.prog w) h (isInstance (.ref 203) (.type "type")) true := by
  revert X; k_fill; intro X
  exact looks_instIn X (by kernel_rfl)
theorem pn_reads (X : (hd.heap_1 w.params).In h) : readsIn (hd.heap_1 w.params) 203 (.type "type") = true := by
  revert X; k_fill; intro X
  kernel_rfl
theorem pn_find (X : (hd.heap_1 w.params).In h) : findCls (hd.heap_1 w.params) (.ref 203) (.type "type") "__new__" = some (.get (.builtin "staticmethod.__get__") (.ref 181) .none (.ref 203)) := by
  revert X; k_fill; intro X
  kernel_rfl
theorem pn_rec (X : (hd.heap_1 w.params).In h) : recIn (hd.heap_1 w.params) 181 "staticmethod" = some [.ref 130] := by
  revert X; k_fill; intro X
  kernel_rfl
theorem pn_object (X : (hd.heap_1 w.params).In h) : Looks (model Challenge.rw_mq0106_01.row.prog w) h (isSubtype (.ref 203) (.type "object")) true := by
  revert X; k_fill; intro X
  exact looks_mroIn X (by kernel_rfl)
end
section
variable {w : World} {A : Around} {E : Value → Shared → Prop} {h : Heap} {g : Array GenState} {d : Drawn} {tk : Nat} {os : OsState}
theorem pn_new {Q : Value → Shared → Prop} {e : Bool} (X : (hd.heap_1 w.params).In h) (hq : Q (.ref 130) ⟨h, g, d, tk + 1, os⟩) :
    wpAny (model Challenge.rw_mq0106_01.row.prog w) A (getAttr (.ref 203) "__new__" e) Q E ⟨h, g, d, tk, os⟩ := by
  refine' cls_bind (K := hd.heap_1 w.params) (mc := .type "type") (g := .builtin "staticmethod.__get__") (a := .ref 181) (obj := .none) (tp := .ref 203) ?m1 ?m2 ?m3 ?_
  case m1 => exact X
  case m2 => exact pn_reads X
  case m3 => exact pn_find X
  refine wpAny_call ?_
  refine' PySem.W.sm_get (K := hd.heap_1 w.params) (f := .ref 130) (rest := []) ?m1 ?m2 ?_
  case m1 => exact X
  case m2 => exact pn_rec X
  exact handed_on rfl hq
theorem pn_init {p dp : Addr} {a b : Value} {Q : Option Value → Shared → Prop} (X : (hd.heap_1 w.params).In h) (hp : h.get? p = some (pairObj dp a b)) (hq : Q (some .none) ⟨h, g, d, tk, os⟩) :
    wpAny (model Challenge.rw_mq0106_01.row.prog w) A (callSpecial? (.ref p) "__init__" [a, b] []) Q E ⟨h, g, d, tk, os⟩ := by
  have F0 : Looks (model Challenge.rw_mq0106_01.row.prog w) h (typeOf (.ref p)) (.ref 203) := (Looks.ld (part := some headPart) hp).andThen .now
  have F1 : Looks (model Challenge.rw_mq0106_01.row.prog w) h (isInstance (.ref p) (.type "object")) true := F0.andThen (pn_object X)
  have F2 := pr_init X
  have F3 := pr_made X
  unfold callSpecial? specialOf
  refine wpAny_bind (wpAny_bind (F0.at (F2.at ?_)))
  dsimp only
  refine wpAny_holding ?_
  rw [oi_bind]
  refine wpAny_bind (wpAny_pure (wpAny_bind (wpAny_call ?_)))
  refine codeAny_call_builtin_at (Code.quiet_builtin _ (by decide +kernel)) oi_entry (@check_slot (model Challenge.rw_mq0106_01.row.prog w) _ _ _ "object.__init__" "object" "__init__" (.ref p) [a, b] [] _ oi_kind oi_split F1 (F.args_object_init_3 _ _ _) ?_)
  unfold Builtin.«object.__init__»
  repeat (first | simp only [List.isEmpty, Bool.not_false, Bool.true_or, Bool.false_eq_true, if_false, if_true] | lk)
  exact hq
theorem atc_depth {A : Around} {vals : List Value} : (A.under (.builtin "type.__call__" ⟨.ref 203 :: vals, []⟩)).depth = A.depth + 1 := rfl
theorem atc_handled {A : Around} {vals : List Value} : (A.under (.builtin "type.__call__" ⟨.ref 203 :: vals, []⟩)).handled = A.handled := by first | rfl | (unfold Around.under; simp)
theorem atc_frames {A : Around} {vals : List Value} : (A.under (.builtin "type.__call__" ⟨.ref 203 :: vals, []⟩)).frames = A.frames := by first | rfl | (unfold Around.under; simp)
theorem pr_cls {h : Heap} (X : (hd.heap_1 w.params).In h) : ∃ oc od cd sl, h.get? 203 = some ⟨oc, od, .cls cd, sl⟩ := let ⟨a, b, c, d, e, _⟩ := pr_obj X; ⟨a, b, c, d, e⟩
theorem pair_make {hb : Heap} {loose : List Str} {mean : ExcName → Option Value} {mg mb : Str → Option Value} {R : Result → Shared → Prop} {a b : Str} {ta tb : Tok} (X₀ : (hd.heap_1 w.params).In hb) (T : Top topProg loose mean mg mb hb) (S : hb.StaysIn h) (hroom : A.depth < 890)
    (k : ∀ h' tk p dp, Kp [] h h' → h.get? p = none → h'.get? p = some (pairObj dp (.str a ta) (.str b tb)) → R (.ok (.ret (.ref p))) ⟨h', g, d, tk, os⟩) :
    codeAny (model Challenge.rw_mq0106_01.row.prog w) A (.call (.ref 203) ⟨[.str a ta, .str b tb], []⟩) R ⟨h, g, d, tk, os⟩ := by
  have X := X₀.keeps S
  have call := pn_call X
  have typ := pn_typ X
  have made := pr_made X
  have hm := pr_mro X
  obtain ⟨oc, od, cd, sl, hC⟩ := pr_cls X
  refine codeAny_of_tree ?_
  show wpAny _ _ (callAny (.ref 203) _) _ _ _
  refine nd_load hC ?_
  show wpAny _ _ (callAny.viaDunder (.ref 203) _) _ _ _
  unfold callAny.viaDunder
  refine wpAny_bind (call.at ?_)
  dsimp only
  rw [tc_bind]
  refine wpAny_bind (wpAny_pure (wpAny_bind (wpAny_pure ?_)))
  refine wpAny_pure (a := Fin.again (.call (.builtin "type.__call__") ⟨[.ref 203, .str a ta, .str b tb], []⟩)) (And.intro rfl ?_)
  refine codeAny_call_builtin_at (Code.quiet_builtin _ (by decide +kernel)) entry_typeCall (check_slot tc_kind tc_split typ (tc_args3 _ _ _) ?_)
  unfold Builtin.«type.__call__»
  dsimp only
  rw [if_neg (by decide)]
  try dsimp only
  refine wpAny_bind (hm.at ?_)
  rw [if_neg (by decide)]
  refine wpAny_bind (made.at ?_)
  dsimp only
  refine wpAny_bind (pn_new X ?_)
  refine wpAny_bind (wpAny_holding (wpAny_call ?_))
  refine new_spec (hb := hb) X₀ T (by exact S) (by rw [atc_depth]; omega) fun h' tk' p dp kp fp hp => ?_
  have X' := X₀.keeps (kp.stays S (fun _ q => nomatch q))
  have F0 : Looks (model Challenge.rw_mq0106_01.row.prog w) h' (isInstance (.ref p) (.ref 203)) true := ((Looks.ld (part := some headPart) hp).andThen .now).andThen (pr_self X')
  dsimp only
  refine wpAny_bind (F0.at ?_)
  rw [if_neg (by decide)]
  refine wpAny_bind (wpAny_holding (pn_init X' hp ?_))
  dsimp only
  rw [if_neg (by decide)]
  exact wpAny_pure (k h' tk' p dp kp fp hp)
end
end
theorem off_Q3 : True := by
  w_top off
  k_with_none
  trivial
-- Q3
section
open PySem PySem.W PyProof.Rows PySem.Calls Builtin Builtin.ObjectAttr Builtin.Getset_descriptor
open PySem.Sem (wp)
section
variable {α : Type} {M : Model} {A : Around} {E : Value → Shared → Prop} {s : Shared}
theorem c_refuses {msg : String} {Q : α → Shared → Prop} (hh : A.handled = none) (h : ∀ h' tk e, Heap.NewExc s.heap h' e "TypeError" → E (.ref e) { s with heap := h', toks := tk }) (hm : (msg : Str).length ≤ sizeLine) :
    wpC M A (theBinderRefuses msg : Sem α) Q E s := by
  unfold theBinderRefuses
  refine c_bind (c_any (wpAny_mkStr (c_bind ?_) hm))
  refine c_any ?_
  unfold newExc newTuple
  refine wpAny_bind (wpAny_newObj_type ?_)
  refine wpAny_bind (m := firstArgMember _ _) (wpAny_of_eq (a := Value.none) (by simp only [firstArgMember, plainExc_TypeError.first]; rfl) ?_)
  rw [plainExc_TypeError.own]
  refine wpAny_newObj_type ?_
  refine c_bind (c_mark ?_)
  refine c_any ?_
  unfold raiseNew
  refine wpAny_bind (wpAny_handled ?_)
  rw [hh]
  first
    | refine wpAny_throw ?_
    | refine wpAny_bind (wpAny_pure (wpAny_throw ?_))
  exact h _ _ _ ⟨fun b o hb => Heap.get?_push_of_some _ (Heap.get?_push_of_some _ hb), Heap.get?_none_of_le (by simp), _, .ref s.heap.objs.size, Heap.get?_push_size _ rfl, rfl, by simp⟩
end
theorem fmsg_fits : (("Pair.__new__() missing 1 required positional argument: 'value'" : String) : Str).length ≤ sizeLine := by decide +kernel
section
variable {w : World} {A : Around} {s : Shared} {hb : Heap} {loose : List Str} {mean : ExcName → Option Value} {mg mb : Str → Option Value} {R : Result → Shared → Prop}
theorem c_ite_pos {α : Type} {M : Model} {E : Value → Shared → Prop} {c : Prop} [Decidable c] {a b : Sem α} {Q : α → Shared → Prop} (hc : c) (h : wpC M A a Q E s) : wpC M A (if c then a else b) Q E s := by rw [if_pos hc]; exact h
theorem c_ite_neg {α : Type} {M : Model} {E : Value → Shared → Prop} {c : Prop} [Decidable c] {a b : Sem α} {Q : α → Shared → Prop} (hc : ¬ c) (h : wpC M A b Q E s) : wpC M A (if c then a else b) Q E s := by rw [if_neg hc]; exact h
theorem c_if_true {α : Type} {M : Model} {E : Value → Shared → Prop} {c : Bool} {a b : Sem α} {Q : α → Shared → Prop} (hc : c = true) (h : wpC M A a Q E s) : wpC M A (if c = true then a else b) Q E s := by rw [if_pos hc]; exact h
theorem c_if_false {α : Type} {M : Model} {E : Value → Shared → Prop} {c : Bool} {a b : Sem α} {Q : α → Shared → Prop} (hc : c = false) (h : wpC M A b Q E s) : wpC M A (if c = true then a else b) Q E s := by rw [if_neg (by rw [hc]; decide)]; exact h
theorem cc_refused {K : Frag} {prog : Program} {name qual : Str} {params : Arguments} {body : List Stmt} {scope : Scope} {dV kV doc pm cdv ct oc : Value} {an od : Option Addr} {osl : Array (Option Value)} {f : Addr} {args : Args}
    (X : K.In s.heap) (ho : K.lookup f = some ⟨oc, od, .func (fnOf name qual params body scope dV kV doc pm an cdv ct), osl⟩) (hcd : codeIn K cdv qual = true) (hroom : A.depth < recursionLimit)
    (hco : scope.isCoroutine = false) (hgen : scope.isGenerator = false)
    (k : wpC (model prog w) A.in1 (bindArgs (fnOf name qual params body scope dV kV doc pm an cdv ct) args) (fun _ _ => False) (fun e s' => R (.error e) s') s) : codeC (model prog w) A (.call (.ref f) args) R s := by
  refine cc_call_function (fd := fnX name qual params body scope [] dV kV doc pm an cdv ct) hroom (X _ _ ho) rfl hco hgen rfl (codeRec_of X hcd) ?_
  exact c_mono k (fun _ _ z => z.elim) fun _ _ z => z
theorem new_fails (X : (hd.heap_1 w.params).In hb) (S : hb.StaysIn s.heap) (hroom : A.depth < 900) (hh : A.handled = none) {a : Str} {ta : Tok}
    (k : ∀ h' tk e, Heap.NewExc s.heap h' e "TypeError" → R (.error (.ref e)) { s with heap := h', toks := tk }) :
    codeC (model Challenge.rw_mq0106_01.row.prog w) A (.call (.ref 130) ⟨[.ref 203, .str a ta], []⟩) R s := by
  have Xs := X.keeps S
  clear X
  revert Xs; k_fill; intro Xs
  refine' cc_refused Xs ?k6 ?k7 ?k8 ?kc ?kg ?k
  case k6 => k_is
  case k7 => k_is
  case k8 => k_room
  case kc => exact rfl
  case kg => exact rfl
  unfold bindArgs
  dsimp only [fnOf]
  simp only [List.forIn_nil]
  refine c_bind (c_pure ?_)
  dsimp only
  refine c_bind (c_any (wpAny_of_eq (a := none) (by first | rfl | kernel_rfl) ?_))
  refine c_if_false (by kernel_rfl) ?_
  refine c_if_true (by kernel_rfl) ?_
  refine c_bind (c_any (wpAny_rule (c_bind (c_refuses hh k ?_))))
  exact Nat.le_of_ble_eq_true (by kernel_rfl)
end
end
theorem off_Q4 : True := by
  w_top off
  k_with_none
  trivial
-- Q4
section
open PySem PySem.W PyProof.Rows PySem.Calls Builtin Builtin.ObjectAttr Builtin.Getset_descriptor
open PySem.Sem (wp)
section
variable {prog : Program} {w : World} {A : Around} {R : Result → Shared → Prop} {s : Shared}
theorem cc_call_builtin_at {id : String} {args : Args} {b : Builtin} (hq : (Code.builtin id args).quiet = true) (he : entryFor table id = some b)
    (h : wpAny (model prog w) A.in1 (checkBuiltinCall id args) (fun _ s₁ => wpC (model prog w) (A.under (.builtin id args)) (b args)
      (fun fin s' => match fin with | .done f => R (.ok f) s' | .again c' => c'.quiet = true ∧ codeC (model prog w) A c' R s') (fun e s' => R (.error e) s') s₁) (fun e s' => R (.error e) s') s) :
    codeC (model prog w) A (.call (.builtin id) args) R s := by
  refine cc_of_tree ?_
  show wpC _ A.in1 (do checkBuiltinCall id args; again (.builtin id args)) _ _ s
  refine c_bind (c_mono (c_any h) (fun _ s₁ h₁ => c_pure (And.intro hq (cc_of_tree ?_))) fun _ _ h' => h')
  show wpC _ _ (match entryFor table id with | some b => b args | none => unsupported ((withoutEnding? id "#data").getD id)) _ _ s₁
  rw [he]; exact h₁
end
section
variable {w : World} {A : Around} {h : Heap} {g : Array GenState} {d : Drawn} {tk : Nat} {os : OsState}
theorem pair_fails {hb : Heap} {R : Result → Shared → Prop} {a : Str} {ta : Tok} (X₀ : (hd.heap_1 w.params).In hb) (S : hb.StaysIn h) (hroom : A.depth < 890) (hh : A.handled = none)
    (k : ∀ h' tk e, Heap.NewExc h h' e "TypeError" → R (.error (.ref e)) ⟨h', g, d, tk, os⟩) :
    codeC (model Challenge.rw_mq0106_01.row.prog w) A (.call (.ref 203) ⟨[.str a ta], []⟩) R ⟨h, g, d, tk, os⟩ := by
  have X := X₀.keeps S
  have call := pn_call X
  have typ := pn_typ X
  have made := pr_made X
  have hm := pr_mro X
  obtain ⟨oc, od, cd, sl, hC⟩ := pr_cls X
  refine cc_of_tree ?_
  show wpC _ _ (callAny (.ref 203) _) _ _ _
  simp only [callAny]
  refine c_bind (c_any (wpAny_load hC ?_))
  show wpC _ _ (callAny.viaDunder (.ref 203) _) _ _ _
  unfold callAny.viaDunder
  refine c_bind (c_any (call.at ?_))
  dsimp only
  rw [tc_bind]
  refine c_bind (c_pure (c_bind (c_pure ?_)))
  refine c_pure (a := Fin.again (.call (.builtin "type.__call__") ⟨[.ref 203, .str a ta], []⟩)) (And.intro rfl ?_)
  refine cc_call_builtin_at (Code.quiet_builtin _ (by decide +kernel)) entry_typeCall (check_slot tc_kind tc_split typ (tc_args2 _ _) ?_)
  unfold Builtin.«type.__call__»
  dsimp only
  rw [if_neg (by decide)]
  try dsimp only
  refine c_bind (c_any (hm.at ?_))
  rw [if_neg (by decide)]
  refine c_bind (c_any (made.at ?_))
  dsimp only
  refine c_bind (c_any (pn_new X ?_))
  refine c_bind (c_holding (c_call ?_))
  refine new_fails (hb := hb) X₀ (by exact S) (by rw [atc_depth]; omega) (by rw [atc_handled]; exact hh) fun h' tk' e x => ?_
  exact k h' tk' e x
end
end
theorem off_Q5 : True := by
  w_top off
  k_with_none
  trivial
-- Q5
section
open PySem PySem.W PyProof.Rows PySem.Calls
open PySem.Sem (wp)
theorem kw_Q5_1 : True := by
  k_with_none
  k_with "mytree" => ((first | (with_reducible show wpAny _ _ _ _ _ _) | (with_reducible show ite _ _ _)); (fail_if_success (with_reducible show wpAny _ _ (PySem.getAttr (Value.type _) _ _) _ _ _)); (fail_if_success (with_reducible show wpAny _ _ (PySem.call (Value.type "map") _) _ _ _)); (fail_if_success (with_reducible show wpAny _ _ (PySem.call (Value.builtin "str.split") _) _ _ _)); (fail_if_success (with_reducible show wpAny _ _ (PySem.call (Value.ref 203) _) _ _ _)))
  k_with "mygo" => (repeat' (first | (k_unfold; (try dsimp only)) | (walk_at "mytree"; walk1) | (dsimp only; walk_at "mytree"; walk1) | fail "no step"))
  k_with "eval Name" => (k_here; k_dflt (refine' nm_local ?z_F ?z_L ?z_v ?_ ?z_a ?z_b; (case z_a => rfl); (case z_b => rfl); (case z_F => k_asm); (case z_L => rfl); (case z_v => first | assumption | rfl); k_whole))
  trivial
section
variable {M : Model} {A : Around} {E : Value → Shared → Prop} {s : Shared} {env : Env} {pos p : Pos} {f : Value} {first : List Value} {Q : Value → Shared → Prop} {e : Expr} {P : Heap → Prop}
theorem c_Call {func : Expr} {args : List Expr}
    (h : wpC M A (eval func env) (fun f s₁ => wpC M A (callWith pos f [] (backTo pos (starEach args env)) []) Q E s₁) E s)
    (he : eval (.Call func args [] pos) env = (do callWith pos (← eval func env) [] (backTo pos (starEach args env)) (backToKw pos (keywordEach [] env))) := by rfl) :
    wpC M A (eval (.Call func args [] pos) env) Q E s := by
  rw [he]; exact c_bind h
theorem c_callStar (hk : ∀ h, P h → ∃ k, (k = Keeper.frame ∨ k = Keeper.machine ∨ k = Keeper.boundFrame) ∧ Looks M h (keeperOf f) k)
    (h : wpAny M A (eval e env) (fun v s₁ => StarOf M A E v (fun vs s₂ => P s₂.heap ∧ wpC M A (call f (first ++ vs)) Q E s₂) s₁) E s)
    (he : starEach [.Starred e p] env = [(true, eval e env)] := by rfl) :
    wpC M A (callWith pos f first (backTo pos (starEach [.Starred e p] env)) []) Q E s := by
  rw [he]
  exact c_callWith hk (ks_lone h)
theorem c_callPlain {args : List Expr} (hk : ∀ h, P h → ∃ k, (k = Keeper.frame ∨ k = Keeper.machine ∨ k = Keeper.boundFrame) ∧ Looks M h (keeperOf f) k)
    (h : wpAny M A (spliced (backTo pos (starEach (e :: args) env))) (fun vs s₁ => P s₁.heap ∧ wpC M A (call f (first ++ vs)) Q E s₁) E s)
    (he : starEach (e :: args) env = (false, eval e env) :: starEach args env := by rfl) :
    wpC M A (callWith pos f first (backTo pos (starEach (e :: args) env)) []) Q E s := by
  rw [he] at h ⊢
  exact c_callWith hk (evalArgs_plain h)
end
theorem strs_of {f : Str → Str} : ∀ {vs : List Value} {ws : List Str}, vs.length = ws.length → (∀ (j : Nat) (v : Value), vs[j]? = some v → ∃ x t, ws[j]? = some x ∧ v = .str (f x) t) → StrsAre vs (ws.map f)
  | [], [], _, _ => .nil
  | [], _ :: _, h, _ => by cases h
  | _ :: _, [], h, _ => by cases h
  | v :: vs, y :: ys, h, k => by
    obtain ⟨x, t, e, rfl⟩ := k 0 v rfl
    injection e with e; subst e
    exact .cons _ t (strs_of (by simpa using h) fun j v e => by have := k (j + 1) v (by simpa using e); simpa using this)
section
variable {prog : Program} {w : World} {A : Around} {E : Value → Shared → Prop} {s : Shared} {g : Heap} {L l : Addr} {m : Str → Option Value} {news : List (Addr × Obj)}
/-- what «*map(str.strip, words)» gives -/
theorem star_map {Q : List Value → Shared → Prop} {z TI i1 : Addr} {vs : List Value} {ws : List Str} (hh : A.handled = none) (hzi : i1 ≠ z) (hTi : TI ≠ i1) (hli : l ≠ i1) (hs : StrsAre vs ws) (hz : ∀ x ∈ ws, x.length ≤ sizeLine) (hn : ws.length ≤ sizeLine)
    (hm : IsMap s.heap z TI (.builtin "str.strip")) (hT : IsOne s.heap TI (.ref i1)) (h1 : s.heap.IsListIter i1 l 0) (hl : s.heap.IsList l vs.toArray)
    (k : ∀ h' tk rs, StrsAre rs (ws.map Txt.strip) → (∀ b o, b ≠ i1 → s.heap.get? b = some o → h'.get? b = some o) → Q rs { s with heap := h', toks := tk }) : StarOf (model prog w) A E (.ref z) Q s := by
  unfold StarOf notIterableAtAll
  refine wpAny_bind (wpAny_specialOf (T := "map") ⟨_, hm, rfl⟩ slot_map_iter.lookup (wpAny_pure ⟨rfl, ?_⟩))
  have W := walks_map (prog := prog) (w := w) (A := A.in1) (l := l) (by exact hh) hzi hTi hli hs hz
  obtain ⟨ol, hol, _⟩ := id hl
  obtain ⟨oi, hoi, _⟩ := id h1
  refine collect_map (W.toS) (fun i s st => ⟨_, st.1, rfl⟩) ⟨hm, hT, h1, hl⟩ (fun b hb => ?_) (by simp) (fun s' acc mv it => ?_) (by rw [strs_len hs]; exact hn)
  · simp only [List.mem_cons, List.not_mem_nil, or_false] at hb
    rcases hb with rfl | rfl | rfl | rfl
    · exact Heap.lt_size hm
    · exact Heap.lt_size hT
    · exact Heap.lt_size hoi
    · exact Heap.lt_size hol
  · obtain ⟨h', g', d', tk', os'⟩ := s'
    obtain ⟨hh', hg', hd', ho', -⟩ := mv
    dsimp only at hg' hd' ho'
    subst hg' hd' ho'
    exact k h' tk' _ (strs_of (by rw [Array.length_toList, it.1, strs_len hs]) fun j v e => it.2 j v (by simpa using e)) fun b o n e => hh' b o (by simpa using n) e
end
theorem split_count (x : Str) {y : Str} {k : Int} : (Txt.splitMax x y k).length ≤ x.length + 2 := by
  unfold Txt.splitMax
  split
  · simp
  · split
    · simp
    · have e1 := StrLaws.occ_length_le_len x y 0 x.length (limitOf x k)
      rw [length_partsBetween]; omega
section
variable {w : World} {A : Around} {s : Shared} {hb : Heap} {loose : List Str} {mean : ExcName → Option Value} {mg mb : Str → Option Value} {R : Result → Shared → Prop}
theorem hi_ss' : handedIn (.builtin "str.strip") = true := hi_ss
theorem parse_gen (X : (hd.heap_1 w.params).In hb) (T : Top topProg loose mean mg mb hb) (S : hb.StaysIn s.heap) (hroom : A.depth < 800) (hh : A.handled = none) {t : Str} {tt : Tok} (hlen : t.length ≤ 1000)
    (k : ∀ env L g h' tk m rs, env.frame = some L → env.scope.kind ≠ .module → Fr g L h' m → hb.StaysIn g → Kp [] s.heap g → StrsAre rs ((Txt.splitMax t "=" 1).map Txt.strip) →
      codeC (model Challenge.rw_mq0106_01.row.prog w) (A.deeper env) (.call (.ref 203) ⟨rs, []⟩) (fun r s' => match r with | Except.ok (Flow.ret v) => R (Except.ok (Flow.ret v)) s' | Except.ok _ => False | .error e => wpAny (model Challenge.rw_mq0106_01.row.prog w) (A.deeper env) (leaving env e) (fun _ s'' => R (.error e) s'') (fun e' s'' => R (.error e') s'') s') { s with heap := h', toks := tk }) :
    codeC (model Challenge.rw_mq0106_01.row.prog w) A (.call (.ref 197) ⟨[.ref 203, .str t tt], []⟩) R s := by
  revert X; k_fill; intro X
  refine' enterQ (binds := [(PySem.Str.ofString "cls", Value.ref 203), (PySem.Str.ofString "text", Value.str t tt)]) X T S [] (by simp) ?k6 ?k7 ?k8 ?k9 ?kB ?_ ?c2 ?c3 ?c4 ?c5
  case k6 => k_is
  case k7 => k_is
  case k8 => k_room
  case k9 => exact BindsTo.of_eq rfl
  case kB => exact locs rfl
  case c2 => decide
  case c3 => exact rfl
  case c4 => exact rfl
  case c5 => exact rfl
  intro g' L' h' F' N' X' T' S' hg' hL' hl'
  refine c_execs_cons (c_Return_some (c_Call (c_any ?_)))
  k_fold
  clear X T S
  walk_at "mygo"
  refine c_callStar (keeps_K (K := hd.heap_1 w.params) ?kk) ?_
  case kk => k_is
  walk_at "mygo"
  have Xh := X'.keeps F'.keep
  refine' ty_val (K := hd.heap_1 w.params) (T := "str") (id := "str.strip") (name := "strip") ?m1 ?m2 ?m3 ?m4 ?m5 ?_
  case m1 => exact Xh
  case m2 => exact stub_str
  case m3 => exact ty_str
  case m4 => exact ss_find Xh
  case m5 => exact hi_ss
  walk_at "mygo"
  refine splitN2A (by k_asm) (by k_asm) (by decide) (by decide) (fun l hl tk e1 e2 e3 e4 F2 N2 => ?_) (by rw [sizeLine_eq]; omega)
  walk_at "mygo"
  have hlt : h'.objs.size < hl.objs.size := by obtain ⟨o, ho, _⟩ := id e4; exact Heap.lt_size ho
  have hcount : (l.map (·.1)).length ≤ sizeLine := by
    have e5 := e1
    rw [e1]
    have := split_count t (y := "=") (k := 1)
    rw [sizeLine_eq]; omega
  refine call_map e4 fun h3 hm hT h1 hz hk => ?_
  refine star_map (i1 := hl.objs.size) (l := h'.objs.size) (by first | exact hh | rfl) (by show hl.objs.size ≠ hl.objs.size + 2; omega) (by show hl.objs.size + 1 ≠ hl.objs.size; omega) (by show h'.objs.size ≠ hl.objs.size; exact Nat.ne_of_lt hlt) e2 (fun x hx => by have := e3 x hx; rw [sizeLine_eq]; omega) hcount hm hT h1 (by obtain ⟨o, ho, r⟩ := e4; exact ⟨o, hk _ _ ho, r⟩) fun h4 tk4 rs hrs hk4 => ?_
  have F4 := fr_kp0 F2 (Kp.of_stays fun b o e => hk4 b o (Nat.ne_of_lt (Heap.lt_size e)) (hk b o e))
  refine ⟨X'.keeps F4.keep, c_call ?_⟩
  rw [e1] at hrs
  refine cc_mono (k _ L' g' h4 tk4 _ rs rfl (by intro q; cases q) F4 S' (Kp.of_stays fun a o e => hg' a o (by simp) e) hrs) fun r s' q => ?_
  rcases r with e | f
  · exact q
  · cases f <;> exact q
end
end
theorem off_I3 : True := by
  w_top off
  k_with_none
  trivial
-- I3
section
open PySem PySem.W PyProof.Rows PySem.Calls
/-- the addresses that stand while the index is built -/
structure IdxC where
  (lr lb b1 b2 x1 x2 f1 f2 nt : Addr)
  tabX : Array Value
  lms : List (Addr × Obj)
noncomputable abbrev idxTail (c : IdxC) : List (Addr × Obj) := (c.lb, W.listOf #[.ref c.b1, .ref c.b2] 0) :: (c.x1, emptyDict) :: (c.x2, emptyDict) :: (100, tabObj #[]) :: (236, tabObj c.tabX) :: c.lms
noncomputable abbrev idxLed (w : World) (it : Addr) (c : IdxC) (oi : Obj) (rs : Array Value) (cr : Nat) (its1 : List BItem) (ep1 : Nat) (its2 : List BItem) (ep2 : Nat) (ns : Array Value) (cn : Nat) (os1 os2 : List (Addr × Obj)) : List (Addr × Obj) :=
  (it, oi) :: (c.lr, W.listOf rs cr) :: (c.b1, bookObj c.x1 c.f1 (esOf w its1) ep1) :: (c.b2, bookObj c.x2 c.f2 (esOf w its2) ep2) :: (c.nt, W.listOf ns cn) :: (idxTail c ++ (os1 ++ os2))
noncomputable abbrev takenOf (zs : List Int) : List Int := zs.filter fun x => !isBad x
structure IdxP (m : Str → Option Value) (c : IdxC) (zs : List Int) (rs : Array Value) (its1 its2 : List BItem) (os1 os2 : List (Addr × Obj)) (ns : Array Value) : Prop where
  mB : m "books" = some (.ref c.lb)
  mR : m "refused" = some (.ref c.lr)
  mP : ∃ t, m "place" = some (.int (takenOf zs).length t)
  ir : IntsAre rs.toList (zs.filter isBad)
  B1 : BItems its1 (bookFrom nameOf [] 0 (takenOf zs)) os1
  B2 : BItems its2 (bookFrom valOf [] 0 (takenOf zs)) os2
  hs : ns.size = its1.length + its2.length
theorem take_snoc {zs : List Int} {k : Nat} (h : k < zs.length) : zs.take (k + 1) = zs.take k ++ [zs.getD k 0] := by
  rw [List.take_add_one]
  simp [h]
theorem filter_snoc {f : Int → Bool} {ys : List Int} {z : Int} : (ys ++ [z]).filter f = ys.filter f ++ (if f z then [z] else []) := by
  rw [List.filter_append]
  cases h : f z <;> simp [h]
section
variable {M : Model} {A : Around} {E : Value → Shared → Prop} {s : Shared} {env : Env}
theorem c_MethodCall {o : Expr} {name : Str} {apos pos : Pos} {args : List Expr} {pl : Sem Bool} {Q : Value → Shared → Prop}
    (h : wpAny M A (eval o env) (fun ov s₁ => wpAny M A (getMethod ov name pl) (fun fx s₂ => wpC M A (callWith pos fx.1 fx.2 (backTo pos (starEach args env)) []) Q E s₂) E s₁) E s)
    (he : eval (.Call (.Attribute o name apos) args [] pos) env = (do
      let ov ← eval o env
      standAt apos.atName
      let (f, first) ← holding [ov] (getMethod ov name pl)
      callWith pos f first (backTo pos (starEach args env)) []) := by rfl) :
    wpC M A (eval (.Call (.Attribute o name apos) args [] pos) env) Q E s := by
  rw [he]
  refine c_bind (c_mono (c_any h) (fun ov s₁ h₁ => c_bind (c_any (wpAny_standAt ?_))) fun _ _ x => x)
  refine c_bind (c_holding (c_mono (c_any h₁) (fun fx s₂ h₂ => ?_) fun _ _ x => x))
  exact h₂
end
end
theorem off_I4 : True := by
  w_top off
  k_with_none
  trivial
-- I4
section
open PySem PySem.W PyProof.Rows PySem.Calls
noncomputable def LamMade (ol : Obj) (c : Addr) (oc : Obj) (cl : Addr) : Prop := ∃ nm qual p q r pm ctv vs t, ol = kla_obj nm qual lamParams (lamBody p q r) lamScope [(Str.ofString "notes", cl)] pm c ctv ∧ oc.data = .fields vs ∧ vs[1]? = some (.str qual t)
theorem LamMade.at {h : Heap} {ol oc oS : Obj} {f c cl nt : Addr} (x : LamMade ol c oc cl) (hf : h.get? f = some ol) (hc : h.get? c = some oc) (hl : h.get? cl = some oS) (d : oS.data = .cell (some (.ref nt))) : LamAt h f nt := by
  obtain ⟨nm, qual, p, q, r, pm, ctv, vs, t, rfl, e1, e2⟩ := x
  exact ⟨nm, qual, p, q, r, cl, pm, c, ctv, oS, hf, ⟨c, oc, vs, t, rfl, hc, e1, e2⟩, hl, d⟩
theorem nd_pick {S : List Nat} (h : S.Nodup) {is : List Nat} (hi : is.Nodup) (hb : ∀ i ∈ is, i < S.length) : (is.map fun i => S.getD i 0).Nodup := by
  unfold List.Nodup at hi ⊢
  rw [List.pairwise_map]
  refine hi.imp_of_mem fun {a b} ha hb' ne e => ne ?_
  have la := hb a ha
  have lb := hb b hb'
  rw [List.getD_eq_getElem?_getD, List.getD_eq_getElem?_getD, List.getElem?_eq_getElem la, List.getElem?_eq_getElem lb] at e
  exact (List.getElem_inj h).mp e
theorem lt_cons {a b : Nat} {l : List Nat} (q : a < b) (h : (b :: l).Pairwise (· < ·)) : (a :: b :: l).Pairwise (· < ·) := List.pairwise_cons.mpr ⟨fun y hy => by
  rcases List.mem_cons.mp hy with rfl | hy
  · exact q
  · exact Nat.lt_trans q ((List.pairwise_cons.mp h).1 y hy), h⟩
theorem nd_init {it lr lb b1 b2 x1 x2 f1 f2 c1 c2 cl nt : Nat} (n1 : nt < cl) (n2 : 100 < cl) (n3 : 236 < cl) (n4 : nt ≠ 100) (n5 : nt ≠ 236) (a1 : cl < c1) (a2 : c1 < f1) (a3 : f1 < x1) (a4 : x1 < b1) (a5 : b1 < c2) (a6 : c2 < f2) (a7 : f2 < x2) (a8 : x2 < b2) (a9 : b2 < lb) (aA : lb < lr) (aB : lr < it) :
    [it, lr, b1, b2, nt, lb, x1, x2, 100, 236, f2, c2, f1, c1, cl].Nodup := by
  have ch : ([cl, c1, f1, x1, b1, c2, f2, x2, b2, lb, lr, it] : List Nat).Pairwise (· < ·) := lt_cons a1 (lt_cons a2 (lt_cons a3 (lt_cons a4 (lt_cons a5 (lt_cons a6 (lt_cons a7 (lt_cons a8 (lt_cons a9 (lt_cons aA (lt_cons aB (List.pairwise_singleton _ _)))))))))))
  have lo : ∀ {x : Nat}, x < cl → ∀ y ∈ ([cl, c1, f1, x1, b1, c2, f2, x2, b2, lb, lr, it] : List Nat), x < y := fun q y hy => by
    rcases List.mem_cons.mp hy with rfl | hy
    · exact q
    · exact Nat.lt_trans q ((List.pairwise_cons.mp ch).1 y hy)
  have nd : ([nt, 100, 236, cl, c1, f1, x1, b1, c2, f2, x2, b2, lb, lr, it] : List Nat).Nodup := by
    refine List.nodup_cons.mpr ⟨fun h => ?_, List.nodup_cons.mpr ⟨fun h => ?_, List.nodup_cons.mpr ⟨fun h => ?_, ch.imp fun q e => by omega⟩⟩⟩
    · rcases List.mem_cons.mp h with h | h
      · exact n4 h
      · rcases List.mem_cons.mp h with h | h
        · exact n5 h
        · exact Nat.lt_irrefl _ (lo n1 _ h)
    · rcases List.mem_cons.mp h with h | h
      · exact absurd h (by decide)
      · exact Nat.lt_irrefl _ (lo n2 _ h)
    · exact Nat.lt_irrefl _ (lo n3 _ h)
  exact nd_pick nd (is := [14, 13, 7, 11, 0, 12, 6, 10, 1, 2, 9, 8, 5, 4, 3]) (by decide) (by show ∀ i ∈ [14, 13, 7, 11, 0, 12, 6, 10, 1, 2, 9, 8, 5, 4, 3], i < 15; decide)
theorem idx_init {w : World} {g h : Heap} {L it lr lb b1 b2 x1 x2 f1 f2 c1 c2 cl nt : Nat} {oi ol1 ol2 oc1 oc2 oS : Obj} {tx : Array Value}
    (N : News g L h [(it, oi), (lr, W.listOf #[] 0), (lb, W.listOf #[.ref b1, .ref b2] 0), (b2, bookObj x2 f2 #[] 0), (x2, emptyDict), (f2, ol2), (c2, oc2), (b1, bookObj x1 f1 #[] 0), (x1, emptyDict), (f1, ol1), (c1, oc1), (cl, oS), (nt, W.listOf #[] 0), (100, tabObj #[]), (236, tabObj tx)])
    (k1 : LamMade ol1 c1 oc1 cl) (k2 : LamMade ol2 c2 oc2 cl) (dS : oS.data = .cell (some (.ref nt)))
    (n1 : nt < cl) (n2 : 100 < cl) (n3 : 236 < cl) (n4 : nt ≠ 100) (n5 : nt ≠ 236) (a1 : cl < c1) (a2 : c1 < f1) (a3 : f1 < x1) (a4 : x1 < b1) (a5 : b1 < c2) (a6 : c2 < f2) (a7 : f2 < x2) (a8 : x2 < b2) (a9 : b2 < lb) (aA : lb < lr) (aB : lr < it) :
    ∃ C : IdxC, C.nt = nt ∧ C.b1 = b1 ∧ C.b2 = b2 ∧ C.lr = lr ∧ C.lb = lb ∧ News g L h (idxLed w it C oi #[] 0 [] 0 [] 0 #[] 0 [] []) ∧ Nd (idxLed w it C oi #[] 0 [] 0 [] 0 #[] 0 [] []) ∧
      ∀ h : Heap, (∀ p ∈ C.lms, h.get? p.1 = some p.2) → LamAt h C.f1 C.nt ∧ LamAt h C.f2 C.nt := by
  refine ⟨⟨lr, lb, b1, b2, x1, x2, f1, f2, nt, tx, [(f2, ol2), (c2, oc2), (f1, ol1), (c1, oc1), (cl, oS)]⟩, rfl, rfl, rfl, rfl, rfl, fun p hp => N p ?_, ?_, fun h hk => ⟨k1.at (hk _ (.tail _ (.tail _ (.head _)))) (hk _ (.tail _ (.tail _ (.tail _ (.head _))))) (hk _ (.tail _ (.tail _ (.tail _ (.tail _ (.head _)))))) dS,
    k2.at (hk _ (.head _)) (hk _ (.tail _ (.head _))) (hk _ (.tail _ (.tail _ (.tail _ (.tail _ (.head _)))))) dS⟩⟩
  · simp only [idxLed, idxTail, List.append_nil, List.mem_cons, List.not_mem_nil, or_false] at hp ⊢
    rcases hp with rfl | rfl | rfl | rfl | rfl | rfl | rfl | rfl | rfl | rfl | rfl | rfl | rfl | rfl | rfl <;> simp [esOf]
  · exact nd_init n1 n2 n3 n4 n5 a1 a2 a3 a4 a5 a6 a7 a8 a9 aA aB
theorem Outs.keepsD {g g' : Heap} {outer : List Env} {D : List Addr} (O : Outs g outer) (hd : ∀ b ∈ D, ∀ o, g.get? b = some o → ∀ es ep, o.data ≠ .dict es ep) (k : ∀ b o, b ∉ D → g.get? b = some o → g'.get? b = some o) : Outs g' outer := fun env he => by
  obtain ⟨hk, b, o, hf, hb, es, ep, hdd⟩ := O env he
  exact ⟨hk, b, o, hf, k _ _ (fun q => hd b q o hb es ep hdd) hb, es, ep, hdd⟩
theorem cc_bound {prog : Program} {w : World} {A : Around} {b f : Addr} {x : Value} {a : Args} {R : Result → Shared → Prop} {s : Shared} (hb : s.heap.get? b = some (methodObj (.ref f) x))
    (hq : codeC (model prog w) A (.call (.ref f) { a with pos := x :: a.pos }) R s) : codeC (model prog w) A (.call (.ref b) a) R s := by
  refine cc_of_tree ?_
  show wpC _ A.in1 (callAny (.ref b) a) _ _ _
  unfold callAny
  refine c_bind (c_any (wpAny_load hb ?_))
  exact c_pure ⟨rfl, hq⟩
section
variable {prog : Program} {w : World} {A : Around} {E : Value → Shared → Prop} {s : Shared} {h₀ : Heap} {L l : Addr} {news : List (Addr × Obj)} {vs : List Value} {n : Nat} {i : Int} {u : Tok} {v : Value} {value slice : Expr} {Q : Value → Shared → Prop}
theorem item_N (N : News h₀ L s.heap news) (hm : (l, W.listOf vs.toArray n) ∈ news) (h0 : 0 ≤ i) (h63 : i < 2 ^ 63) (hx : vs[i.toNat]? = some v) (h : Q v s)
    (hsub : subscripted slice false (.ref l) (.int i u) = operate [.ref l, .int i u] (getItem (.ref l) (.int i u)) := by with_unfolding_all rfl) :
    wpAny (model prog w) A (subscriptTail value slice (.ref l) (.int i u)) Q E s := by
  have hl : s.heap.IsList l vs.toArray := ⟨_, News.get N hm, rfl, n, rfl⟩
  exact tail_any hl.typeIs slot_list_getitem.lookup (wpAny_getItem_list hl h0 h63 (by simpa using hx) h) hsub
end
theorem idx_lms {C : IdxC} {pre mid x : List (Addr × Obj)} {b n q : Addr × Obj} (hq : q ∈ C.lms) : q ∈ pre ++ b :: (mid ++ n :: (idxTail C ++ x)) := by simp [hq]
theorem idx_lb {C : IdxC} {pre mid x : List (Addr × Obj)} {b n : Addr × Obj} : (C.lb, W.listOf [Value.ref C.b1, Value.ref C.b2].toArray 0) ∈ pre ++ b :: (mid ++ n :: (idxTail C ++ x)) := by simp
theorem idx_lb2 {C : IdxC} {x : List (Addr × Obj)} {a b c d : Addr × Obj} : (C.lb, W.listOf [Value.ref C.b1, Value.ref C.b2].toArray 0) ∈ a :: b :: c :: d :: (idxTail C ++ x) := by simp
theorem idx_x {C : IdxC} {x : List (Addr × Obj)} : (C.x1, emptyDict) ∈ idxTail C ++ x ∧ (C.x2, emptyDict) ∈ idxTail C ++ x := by simp
theorem addTo_sz {n : Nat} {x : Str} {p : Int} : ∀ {bk : Book}, (∀ q ∈ bk, q.2.length ≤ n) → ∀ q ∈ addTo bk x p, q.2.length ≤ n + 1
  | [], _, q, hq => by
    simp only [addTo, List.mem_singleton] at hq
    subst hq; simp
  | (y, ns) :: r, h, q, hq => by
    unfold addTo at hq
    split at hq
    · rcases List.mem_cons.mp hq with rfl | hq
      · have := h _ (.head _); simp only [List.length_append, List.length_cons, List.length_nil] at *; omega
      · exact Nat.le_succ_of_le (h q (.tail _ hq))
    · rcases List.mem_cons.mp hq with rfl | hq
      · exact Nat.le_succ_of_le (h _ (.head _))
      · exact addTo_sz (fun q hq => h q (.tail _ hq)) q hq
theorem bookFrom_sz {key : Int → Str} {n : Nat} : ∀ {xs : List Int} {bk : Book} {i : Nat}, (∀ q ∈ bk, q.2.length ≤ n) → ∀ q ∈ bookFrom key bk i xs, q.2.length ≤ n + xs.length
  | [], bk, i, h, q, hq => h q hq
  | x :: r, bk, i, h, q, hq => by
    have := bookFrom_sz (n := n + 1) (addTo_sz h) q hq
    rw [List.length_cons]; omega
theorem list_fits {key : Int → Str} {xs : List Int} {x : Str} {vs : List Value} (hx : xs.length ≤ 100) (h : vs.length ≤ 1000000 ∨ ∃ ns, (x, ns) ∈ bookFrom key [] 0 xs ∧ IntsAre vs ns) : vs.toArray.size ≤ sizeLine := by
  rw [List.size_toArray, sizeLine_eq]
  rcases h with h | ⟨ns, hm, hi⟩
  · omega
  · have := bookFrom_sz (n := 0) (by simp) _ hm
    rw [ints_len hi]
    simp only at this
    omega
theorem ld_any {M : Model} {A : Around} {E : Value → Shared → Prop} {s : Shared} {h₀ : Heap} {L : Addr} {m : Str → Option Value} {env : Env} {x : Str} {v : Value} {Q : Value → Shared → Prop} (F : Fr h₀ L s.heap m) (hL : env.locals = L) (hv : m x = some v) (h : Q v s) (hk : env.scope.kind = .function := by rfl) (hx : env.kindOf x = some .local := by rfl) :
    wpAny M A (loadName env x) Q E s := by subst hL; exact wpAny_loadName_local hk hx F.ns hv h
theorem taken_ok {zs : List Int} {j : Nat} {z : Int} (h : j < zs.length) (e : zs.getD j 0 = z) (b : isBad z = false) : takenOf (zs.take (j + 1)) = takenOf (zs.take j) ++ [z] ∧ (zs.take (j + 1)).filter isBad = (zs.take j).filter isBad := by
  rw [take_snoc h, e]
  exact ⟨by unfold takenOf; rw [filter_snoc]; simp [b], by rw [filter_snoc]; simp [b]⟩
theorem taken_bad {zs : List Int} {j : Nat} {z : Int} (h : j < zs.length) (e : zs.getD j 0 = z) (b : isBad z = true) : takenOf (zs.take (j + 1)) = takenOf (zs.take j) ∧ (zs.take (j + 1)).filter isBad = (zs.take j).filter isBad ++ [z] := by
  rw [take_snoc h, e]
  exact ⟨by unfold takenOf; rw [filter_snoc]; simp [b], by rw [filter_snoc]; simp [b]⟩
theorem book_ok {key : Int → Str} {xs : List Int} {z : Int} : bookFrom key [] 0 (xs ++ [z]) = addTo (bookFrom key [] 0 xs) (key z) (xs.length : Int) := by rw [bookFrom_snoc, Nat.zero_add]
theorem ne_sysModules {b : Nat} (h : 236 < b) : ((b : Addr) == sysModules) = false := by
  have : b ≠ sysModules := by unfold sysModules; omega
  exact beq_false_of_ne this
end
theorem off_I5 : True := by
  w_top off
  k_with_none
  trivial
-- I5
section
open PySem PySem.W PyProof.Rows PySem.Calls Builtin Builtin.ObjectAttr
theorem LamAt.kept {h h' : Heap} {lam n : Addr} (x : LamAt h lam n) (k : ∀ a o, h.get? a = some o → (∀ es ep, o.data ≠ .dict es ep) → (∀ xs e, o.data ≠ .seq xs e) → (∀ vs, o.data = .fields vs → ∃ q t, vs[1]? = some (.str q t)) → h'.get? a = some o) : LamAt h' lam n := by
  obtain ⟨nm, qual, p, q, r, c, pm, c', ctv, o, h1, ⟨c₂, oc, vs, t, e2, hoc, hd, hv⟩, h3, h4⟩ := x
  exact ⟨nm, qual, p, q, r, c, pm, c', ctv, o, k _ _ h1 (fun _ _ q => by cases q) (fun _ _ q => by cases q) (fun _ q => by cases q), ⟨c₂, oc, vs, t, e2, k _ _ hoc (fun _ _ q => by rw [hd] at q; cases q) (fun _ _ q => by rw [hd] at q; cases q) (fun _ q => by rw [hd] at q; cases q; exact ⟨_, _, hv⟩), hd, hv⟩,
    k _ _ h3 (fun _ _ q => by rw [h4] at q; cases q) (fun _ _ q => by rw [h4] at q; cases q) (fun _ q => by rw [h4] at q; cases q), h4⟩
theorem FrzAt.kept {h h' : Heap} {fz b : Addr} (x : FrzAt h fz b) (k : ∀ a o, h.get? a = some o → (∀ es ep, o.data ≠ .dict es ep) → (∀ xs e, o.data ≠ .seq xs e) → (∀ vs, o.data = .fields vs → ∃ q t, vs[1]? = some (.str q t)) → h'.get? a = some o) : FrzAt h' fz b := by
  obtain ⟨nm, qual, p0, c, pm, c', ctv, o, h1, ⟨c₂, oc, vs, t, e2, hoc, hd, hv⟩, h3, h4⟩ := x
  exact ⟨nm, qual, p0, c, pm, c', ctv, o, k _ _ h1 (fun _ _ q => by cases q) (fun _ _ q => by cases q) (fun _ q => by cases q), ⟨c₂, oc, vs, t, e2, k _ _ hoc (fun _ _ q => by rw [hd] at q; cases q) (fun _ _ q => by rw [hd] at q; cases q) (fun _ q => by rw [hd] at q; cases q; exact ⟨_, _, hv⟩), hd, hv⟩,
    k _ _ h3 (fun _ _ q => by rw [h4] at q; cases q) (fun _ _ q => by rw [h4] at q; cases q) (fun _ q => by rw [h4] at q; cases q), h4⟩
theorem rec_kept {h h' : Heap} {c : Value} {q : Str} (x : h.CodeRec c q) (k : ∀ a o, h.get? a = some o → (∀ es ep, o.data ≠ .dict es ep) → (∀ xs e, o.data ≠ .seq xs e) → (∀ vs, o.data = .fields vs → ∃ q t, vs[1]? = some (.str q t)) → h'.get? a = some o) : h'.CodeRec c q := by
  obtain ⟨c₂, oc, vs, t, e2, hoc, hd, hv⟩ := x
  exact ⟨c₂, oc, vs, t, e2, k _ _ hoc (fun _ _ q => by rw [hd] at q; cases q) (fun _ _ q => by rw [hd] at q; cases q) (fun _ q => by rw [hd] at q; cases q; exact ⟨_, _, hv⟩), hd, hv⟩
/-- what turns: dicts, lists and records without a name -/
theorem kept_of {h h' : Heap} {D : List Addr} (kp : Kp D h h') (hd : ∀ d ∈ D, ∀ o, h.get? d = some o → (∃ es ep, o.data = .dict es ep) ∨ (∃ xs e, o.data = .seq xs e) ∨ ∃ vs, o.data = .fields vs ∧ ∀ q t, vs[1]? ≠ some (.str q t)) :
    ∀ a o, h.get? a = some o → (∀ es ep, o.data ≠ .dict es ep) → (∀ xs e, o.data ≠ .seq xs e) → (∀ vs, o.data = .fields vs → ∃ q t, vs[1]? = some (.str q t)) → h'.get? a = some o := fun a o e n1 n2 n3 => by
  by_cases m : a ∈ D
  · rcases hd a m o e with ⟨es, ep, q⟩ | ⟨xs, n, q⟩ | ⟨vs, q, z⟩
    · exact absurd q (n1 _ _)
    · exact absurd q (n2 _ _)
    · obtain ⟨q', t, w⟩ := n3 vs q
      exact absurd w (z _ _)
  · exact kp a o m e
theorem News.put2 {g h h' : Heap} {L a b : Addr} {o o' p p' : Obj} {pre mid post : List (Addr × Obj)} (N : News g L h (pre ++ (a, o) :: (mid ++ (b, p) :: post))) (nd : Nd (pre ++ (a, o) :: (mid ++ (b, p) :: post))) (kp : Kp [b, a] h h') (e : h'.get? a = some o') (e2 : h'.get? b = some p') :
    News g L h' (pre ++ (a, o') :: (mid ++ (b, p') :: post)) := by
  have nd2 : Nd ((pre ++ (a, o) :: mid) ++ (b, p) :: post) := by simpa using nd
  have A1 := nd.apart
  have A2 := nd2.apart
  have old : ∀ q, q ∈ pre ∨ q ∈ mid ∨ q ∈ post → h'.get? q.1 = some q.2 ∧ q.1 ≠ L ∧ g.get? q.1 = none := fun q hq => by
    have hm : q ∈ pre ++ (a, o) :: (mid ++ (b, p) :: post) := by rcases hq with hq | hq | hq <;> simp [hq]
    refine ⟨kp _ _ ?_ (N q hm).1, (N q hm).2⟩
    simp only [List.mem_cons, List.not_mem_nil, or_false, not_or]
    refine ⟨A2 q ?_, A1 q ?_⟩
    · rcases hq with hq | hq | hq <;> simp [hq]
    · rcases hq with hq | hq | hq <;> simp [hq]
  intro q hq
  rcases List.mem_append.mp hq with hq | hq
  · exact old q (.inl hq)
  · rcases List.mem_cons.mp hq with rfl | hq
    · exact ⟨e, (N (_, o) (by simp)).2⟩
    · rcases List.mem_append.mp hq with hq | hq
      · exact old q (.inr (.inl hq))
      · rcases List.mem_cons.mp hq with rfl | hq
        · exact ⟨e2, (N (_, p) (by simp)).2⟩
        · exact old q (.inr (.inr hq))
theorem empty_ns {h : Heap} {dx : Addr} (e : h.get? dx = some emptyDict) : h.Ns dx (fun _ => none) := ⟨_, _, _, e, rfl, (by intro x hx; simp at hx), fun x => rfl⟩
section
variable {w : World} {A : Around} {E : Value → Shared → Prop} {h : Heap} {g : Array GenState} {d : Drawn} {t : Nat} {os : OsState}
theorem fz_look (X : (hd.heap_1 w.params).In h) : Looks (model Challenge.rw_mq0106_01.row.prog w) h (typeLookup (.ref 108) "freeze") (some (.ref 105)) := by
  revert X; k_fill; intro X
  exact looks_findIn X (by kernel_rfl)
theorem fz_type (X : (hd.heap_1 w.params).In h) : Looks (model Challenge.rw_mq0106_01.row.prog w) h (typeOf (.ref 105)) (.type "function") := by
  revert X; k_fill; intro X
  exact looks_typeIn X (by kernel_rfl)
theorem fz_method {b dx lam : Addr} {es : Array DictEntry} {ep : Nat} {pl : Sem Bool} {Q : Value × List Value → Shared → Prop} (X : (hd.heap_1 w.params).In h) (hb : h.get? b = some (bookObj dx lam es ep)) (hdx : h.get? dx = some emptyDict)
    (hq : Q (.ref 105, [.ref b]) ⟨h, g, d, t, os⟩) :
    wpAny (model Challenge.rw_mq0106_01.row.prog w) A (getMethod (.ref b) "freeze" pl) Q E ⟨h, g, d, t, os⟩ := by
  have L0 : Looks (model Challenge.rw_mq0106_01.row.prog w) h (typeOf (.ref b)) (.ref 108) := (Looks.ld (part := some headPart) hb).andThen .now
  have L1 := gq_ga X
  unfold getMethod specialOf
  dsimp only
  refine wpAny_bind (wpAny_bind (L0.at (L1.at ?_)))
  dsimp only
  have hcan : (Manifest.canonical "collections.defaultdict.__getattribute__" != "object.__getattribute__") = false := by decide +kernel
  rw [hcan]
  refine wpAny_bind (wpAny_bind (L0.at ((gq_hook X).at ?_)))
  rw [if_neg (by decide)]
  refine wpAny_bind (wpAny_bind (L0.at ((fz_look X).at ?_)))
  dsimp only
  refine wpAny_bind ((fz_type X).at ?_)
  rw [if_neg (by decide)]
  refine wpAny_bind (wpAny_loadPart hb ?_)
  dsimp only
  refine wpAny_bind (wpAny_nsGet (empty_ns hdx) ?_)
  rw [if_neg (by decide)]
  refine wpAny_bind (wpAny_rule ?_)
  exact wpAny_pure hq
end
/-- what the index leaves -/
structure IdxRes where
  (lb lr b1 b2 x1 x2 f1 f2 fz1 fz2 : Addr)
  (t1 t2 : Tok)
  (its1 its2 : List BItem)
  (ep1 ep2 : Nat)
  (os1 os2 : List (Addr × Obj))
  rs : Array Value
  cr : Nat
  ns : Array Value
  cn : Nat
  ps1 : Array Value
  ps2 : Array Value
noncomputable abbrev resLed (w : World) (r : IdxRes) : List (Addr × Obj) :=
  (r.lr, W.listOf r.rs r.cr) :: (r.lb, W.listOf #[.ref r.b1, .ref r.b2] 0) :: (r.b1, bookObj r.x1 r.f1 (esOf w r.its1) r.ep1) :: (r.b2, bookObj r.x2 r.f2 (esOf w r.its2) r.ep2) :: (r.x1, frozenDict w r.fz1 r.t1) :: (r.x2, frozenDict w r.fz2 r.t2) :: (r.os1 ++ r.os2)
structure IdxOk (w : World) (zs : List Int) (nt : Addr) (h h' : Heap) (fs : List Addr) (r : IdxRes) : Prop where
  old : ∀ a o, a ∉ [nt, 100, 236] → h.get? a = some o → (a ∉ fs → h'.get? a = some o) ∧ ∃ sl, h'.get? a = some { o with slots := sl }
  new : ∀ p ∈ resLed w r, h.get? p.1 = none ∧ h'.get? p.1 = some p.2
  nd : Nd ((nt, W.listOf r.ns r.cn) :: resLed w r)
  note : h'.get? nt = some (W.listOf r.ns r.cn)
  hs : r.ns.size = r.its1.length + r.its2.length
  tab1 : h'.get? 100 = some (tabObj r.ps1)
  tab2 : h'.get? 236 = some (tabObj r.ps2)
  lam1 : LamAt h' r.f1 nt
  lam2 : LamAt h' r.f2 nt
  frz1 : FrzAt h' r.fz1 r.b1
  frz2 : FrzAt h' r.fz2 r.b2
  ir : IntsAre r.rs.toList (zs.filter isBad)
  B1 : BItems r.its1 (bookFrom nameOf [] 0 (takenOf zs)) r.os1
  B2 : BItems r.its2 (bookFrom valOf [] 0 (takenOf zs)) r.os2
  m1 : (r.b1 == sysModules) = false
  m2 : (r.b2 == sysModules) = false
noncomputable abbrev frzLed (w : World) (it : Addr) (c : IdxC) (oi : Obj) (rs : Array Value) (cr : Nat) (its1 : List BItem) (ep1 : Nat) (its2 : List BItem) (ep2 : Nat) (ns : Array Value) (cn : Nat) (os1 os2 : List (Addr × Obj)) (o1 o2 : Obj) (T : Array Value) : List (Addr × Obj) :=
  (it, oi) :: (c.lr, W.listOf rs cr) :: (c.b1, bookObj c.x1 c.f1 (esOf w its1) ep1) :: (c.b2, bookObj c.x2 c.f2 (esOf w its2) ep2) :: (c.nt, W.listOf ns cn) :: (c.lb, W.listOf #[.ref c.b1, .ref c.b2] 0) :: (c.x1, o1) :: (c.x2, o2) :: (100, tabObj T) :: (236, tabObj c.tabX) :: (c.lms ++ (os1 ++ os2))
theorem nd_frz {w : World} {it : Addr} {c : IdxC} {oi oi' o1 o2 o1' o2' : Obj} {rs : Array Value} {cr : Nat} {its1 its2 : List BItem} {ep1 ep2 : Nat} {ns : Array Value} {cn : Nat} {os1 os2 : List (Addr × Obj)} {T T' : Array Value}
    (nd : ((frzLed w it c oi rs cr its1 ep1 its2 ep2 ns cn os1 os2 o1 o2 T).map Prod.fst).Nodup) : ((frzLed w it c oi' rs cr its1 ep1 its2 ep2 ns cn os1 os2 o1' o2' T').map Prod.fst).Nodup := nd
theorem frz_lb {c : IdxC} {p0 p1 p2 p3 p4 : Addr × Obj} {r : List (Addr × Obj)} : (c.lb, W.listOf [Value.ref c.b1, Value.ref c.b2].toArray 0) ∈ p0 :: p1 :: p2 :: p3 :: p4 :: (c.lb, W.listOf #[.ref c.b1, .ref c.b2] 0) :: r := by simp
/-- objects that no list, dict or table is -/
noncomputable def NamedO (o : Obj) : Prop := (∀ es ep, o.data ≠ .dict es ep) ∧ (∀ xs e, o.data ≠ .seq xs e) ∧ (∀ vs, o.data = .fields vs → ∃ q t, vs[1]? = some (.str q t))
noncomputable abbrev HeldBy (g h : Heap) (L : Addr) (P : Heap → Prop) (l : List (Addr × Obj)) : Prop :=
  News g L h l ∧ (∀ p ∈ l, NamedO p.2) ∧ ∀ h2 : Heap, (∀ a o, g.get? a = some o → h2.get? a = some o) → (∀ p ∈ l, h2.get? p.1 = some p.2) → P h2
section
variable {g h h' : Heap} {L : Addr} {m : Str → Option Value}
theorem held_obj (F : Fr g L h m) {a : Addr} {o : Obj} (e : h.get? a = some o) (n : NamedO o) : ∃ l, HeldBy g h L (fun h2 => h2.get? a = some o) l := by
  cases q : g.get? a with
  | some x =>
    have := F.keep _ _ q
    rw [e] at this; cases this
    exact ⟨[], (fun p hp => (by cases hp)), (fun p hp => (by cases hp)), fun h2 k _ => k _ _ q⟩
  | none =>
    refine ⟨[(a, o)], fun p hp => ?_, fun p hp => ?_, fun h2 _ k => k _ (.head _)⟩
    · rw [List.mem_singleton.mp hp]
      refine ⟨e, fun z => ?_, q⟩
      obtain ⟨oL, es, ep, hL, hd, _⟩ := F.ns
      dsimp only at z
      rw [z, hL] at e; cases e
      exact n.1 _ _ hd
    · rw [List.mem_singleton.mp hp]; exact n
theorem HeldBy.and {P Q : Heap → Prop} {l₁ l₂ : List (Addr × Obj)} (x : HeldBy g h L P l₁) (y : HeldBy g h L Q l₂) : HeldBy g h L (fun h2 => P h2 ∧ Q h2) (l₁ ++ l₂) :=
  ⟨news_app x.1 y.1, fun p hp => (List.mem_append.mp hp).elim (x.2.1 p) (y.2.1 p), fun h2 k k2 => ⟨x.2.2 h2 k fun p hp => k2 p (List.mem_append_left _ hp), y.2.2 h2 k fun p hp => k2 p (List.mem_append_right _ hp)⟩⟩
theorem HeldBy.mono {P Q : Heap → Prop} {l : List (Addr × Obj)} (x : HeldBy g h L P l) (k : ∀ h2, P h2 → Q h2) : HeldBy g h L Q l := ⟨x.1, x.2.1, fun h2 a b => k _ (x.2.2 h2 a b)⟩
theorem held_rec (F : Fr g L h m) {c : Value} {q : Str} (x : h.CodeRec c q) : ∃ l, HeldBy g h L (fun h2 => h2.CodeRec c q) l := by
  obtain ⟨c₂, oc, vs, t, e2, hoc, hd, hv⟩ := x
  obtain ⟨l, hl⟩ := held_obj F hoc ⟨fun _ _ q => (by rw [hd] at q; cases q), fun _ _ q => (by rw [hd] at q; cases q), fun _ q => (by rw [hd] at q; cases q; exact ⟨_, _, hv⟩)⟩
  exact ⟨l, hl.mono fun h2 e => ⟨c₂, oc, vs, t, e2, e, hd, hv⟩⟩
theorem held_frz (F : Fr g L h m) {fz b : Addr} (x : FrzAt h fz b) : ∃ l, HeldBy g h L (fun h2 => FrzAt h2 fz b) l := by
  obtain ⟨nm, qual, p0, c, pm, c', ctv, o, h1, h2, h3, h4⟩ := x
  obtain ⟨l1, k1⟩ := held_obj F h1 ⟨fun _ _ q => (by cases q), fun _ _ q => (by cases q), fun _ q => (by cases q)⟩
  obtain ⟨l2, k2⟩ := held_rec F h2
  obtain ⟨l3, k3⟩ := held_obj F h3 ⟨fun _ _ q => (by rw [h4] at q; cases q), fun _ _ q => (by rw [h4] at q; cases q), fun _ q => (by rw [h4] at q; cases q)⟩
  exact ⟨_, (k1.and (k2.and k3)).mono fun h2 e => ⟨nm, qual, p0, c, pm, c', ctv, o, e.1, e.2.1, e.2.2, h4⟩⟩
theorem held_lam (F : Fr g L h m) {lam n : Addr} (x : LamAt h lam n) : ∃ l, HeldBy g h L (fun h2 => LamAt h2 lam n) l := by
  obtain ⟨nm, qual, p, q, r, c, pm, c', ctv, o, h1, h2, h3, h4⟩ := x
  obtain ⟨l1, k1⟩ := held_obj F h1 ⟨fun _ _ q => (by cases q), fun _ _ q => (by cases q), fun _ q => (by cases q)⟩
  obtain ⟨l2, k2⟩ := held_rec F h2
  obtain ⟨l3, k3⟩ := held_obj F h3 ⟨fun _ _ q => (by rw [h4] at q; cases q), fun _ _ q => (by rw [h4] at q; cases q), fun _ q => (by rw [h4] at q; cases q)⟩
  exact ⟨_, (k1.and (k2.and k3)).mono fun h2 e => ⟨nm, qual, p, q, r, c, pm, c', ctv, o, e.1, e.2.1, e.2.2, h4⟩⟩
theorem HeldBy.at {P : Heap → Prop} {l : List (Addr × Obj)} (x : HeldBy g h L P l) (N : News g L h' l) : HeldBy g h' L P l := ⟨N, x.2.1, x.2.2⟩
theorem HeldBy.kp {P : Heap → Prop} {l : List (Addr × Obj)} {D : List Addr} (x : HeldBy g h L P l) (kp : Kp D h h') (hd : ∀ d ∈ D, ∀ o, h.get? d = some o → ¬ NamedO o) : HeldBy g h' L P l :=
  x.at (news_kp x.1 kp fun p hp q => hd _ q _ (x.1 p hp).1 (x.2.1 p hp))
theorem not_named_seq {o : Obj} {xs : Array Value} {n : Nat} (e : o.data = .seq xs n) : ¬ NamedO o := fun k => k.2.1 _ _ e
theorem not_named_dict {o : Obj} {es : Array DictEntry} {n : Nat} (e : o.data = .dict es n) : ¬ NamedO o := fun k => k.1 _ _ e
theorem not_named_rec {o : Obj} {vs : Array Value} {i : Int} {t : Tok} (e : o.data = .fields vs) (h : vs[1]? = some (.int i t)) : ¬ NamedO o := fun k => by
  obtain ⟨q, t', z⟩ := k.2.2 _ e
  rw [h] at z; cases z
theorem not_named_nil {o : Obj} (e : o.data = .fields #[]) : ¬ NamedO o := fun k => by
  obtain ⟨q, t', z⟩ := k.2.2 _ e
  cases z
end
end
theorem off_ZC : True := by
  w_top off
  k_with_none
  trivial
-- ZC
section
open PySem PySem.W PyProof.Rows PySem.Calls
section
variable {prog : Program} {w : World} {A : Around} {E : Value → Shared → Prop} {R : Result → Shared → Prop} {s : Shared} {env : Env}
/-- what a comprehension over zip of two lists wants: its element, its end -/
inductive ZipNeed (prog : Program) (w : World) (A : Around) (env : Env) (scope : Scope) (cl : List (Str × Addr)) (a b : Str) (xs ys : List Value) (f : Nat → Value) (elt : Expr)
    (ex : List Addr) (Ex : Addr → Heap → Prop) (done : Addr → Shared → Prop) (it : Value) (s₂ : Shared) : Prop
  | mk (z TI TO i1 i2 l1 l2 : Addr) (_ : it = .ref z) (_ : A.handled = none) (_ : ZipApart z TI TO i1 i2 l1 l2) (_ : min xs.length ys.length ≤ 100000) (_ : IsZip s₂.heap z TI TO .none ∧ IsPair s₂.heap TI (.ref i1) (.ref i2) ∧ (∃ a b, IsPair s₂.heap TO a b) ∧ s₂.heap.IsListIter i1 l1 0 ∧ s₂.heap.IsListIter i2 l2 0 ∧ s₂.heap.IsList l1 xs.toArray ∧ s₂.heap.IsList l2 ys.toArray) (_ : ∀ b ∈ ex, b ∉ [z, TO, i1, i2] ∧ ∃ o, s₂.heap.get? b = some o) (_ : ∀ C i x y h tk E' m', xs[i]? = some x → ys[i]? = some y → s₂.heap.objs.size ≤ C → h.Ns C m' → m' a = some x → m' b = some y → (∀ c o, c ∉ [z, TO, i1, i2] → s₂.heap.get? c = some o → h.get? c = some o) →
      wpAny (model prog w) A (eval elt (compEnvC scope cl C env)) (fun v s₃ => v = f i ∧ Keeps { s₂ with heap := h, toks := tk } s₃) E' { s₂ with heap := h, toks := tk }) (_ : ∀ h' tk D nD, s₂.heap.get? D = none → h'.get? D = some (listOf ((List.range (min xs.length ys.length)).map f).toArray nD) → (∀ c o, c ∉ [z, TO, i1, i2] → c ∉ ex → s₂.heap.get? c = some o → h'.get? c = some o) → Ex D h' → done D { s₂ with heap := h', toks := tk })
/-- between two turns of it -/
inductive ZInv (s₂ : Shared) (n : Nat) (z TI TO i1 i2 l1 l2 : Addr) (xs ys : List Value) (C D : Addr) (f : Nat → Value) (h₁ : Heap) (k : Nat) (s' : Shared) : Prop
  | mk (h' : Heap) (tk : Tok) (i : Nat) (m' : Str → Option Value) (_ : s' = { s₂ with heap := h', toks := tk }) (_ : i ≤ n) (_ : k = n + 1 - i) (_ : IsZip h' z TI TO .none ∧ IsPair h' TI (.ref i1) (.ref i2) ∧ (∃ a b, IsPair h' TO a b) ∧ h'.IsListIter i1 l1 i ∧ h'.IsListIter i2 l2 i ∧ h'.IsList l1 xs.toArray ∧ h'.IsList l2 ys.toArray)
    (_ : h'.Ns C m') (_ : h'.PlainList D ((List.range i).map f).toArray) (_ : ∀ b o, b ∉ [z, TO, i1, i2] → b ≠ C → b ≠ D → h₁.get? b = some o → h'.get? b = some o)
theorem zip_block {elt iter : Expr} {a b : Str} {pa pb tp : Pos} {kk : Nat} {scope : Scope} {cl : List (Str × Addr)} {pos : Pos} {s₂ : Shared} {xs ys : List Value} {f : Nat → Value} {ex : List Addr} {Ex : Addr → Heap → Prop} {done : Addr → Shared → Prop} {it : Value}
    {RR : Value → Addr → Result → Shared → Prop}
    (hcell : ∀ y ∈ scope.names, y.2 ≠ .cell) (hkind : scope.kind = .function) (hxa : scope.names.lookup a = some .local) (hxb : scope.names.lookup b = some .local) (hab : ¬ a = b) (N : ZipNeed prog w A env scope cl a b xs ys f elt ex Ex done it s₂)
    (hRR : ∀ D C h' tk m' nD ys, s₂.heap.get? D = none → s₂.heap.get? C = none → D ≠ C → h'.Ns C m' → h'.get? D = some (listOf ys nD) → (∀ h'' tk'', (∀ b o, b ≠ C → b ∉ ex → h'.get? b = some o → h''.get? b = some o) → Ex D h'' → done D { s₂ with heap := h'', toks := tk'' }) → (∀ b ∈ ex, ∀ o, s₂.heap.get? b = some o → h'.get? b = some o) →
      RR (.ref D) C (.ok .next) { s₂ with heap := h', toks := tk }) :
    wpAny (model prog w) A (newList []) (fun acc s₃ => wpAny (model prog w) A (newFunctionEnv scope env.globals cl [] env.qual none .none (some env)) (fun cenv s₄ =>
      codeAny (model prog w) A (.compStart (.ListComp elt [⟨.Tuple [.Name a pa, .Name b pb] kk tp, iter, [], 0⟩] scope pos) 0 it acc { cenv with scope := relabel scope env }) (RR acc cenv.locals) s₄) E s₃) E s₂ := by
  refine cps fun P9 hP9 => ?_
  obtain ⟨z, TI, TO, i1, i2, l1, l2, rfl, hh, D, hsz, hst, hex, helt, hdone⟩ := N
  refine hP9 ?_; clear hP9 P9
  have W0 := WalksT.zip2 (prog := prog) (w := w) hh z TI TO i1 i2 l1 l2 D xs.toArray ys.toArray
  have W := KTurns.ofWalksU (elts := [.Name a pa, .Name b pb]) (k := kk) (pos := tp) W0.toU
  have hfp : ∀ c ∈ [z, TI, TO, i1, i2, l1, l2], ∃ o, s₂.heap.get? c = some o := by
    obtain ⟨hz, hTI, ⟨u, v, hTO⟩, ⟨o1, e1, _⟩, ⟨o2, e2, _⟩, ⟨o3, e3, _⟩, ⟨o4, e4, _⟩⟩ := hst
    exact all_cons ⟨_, hz⟩ (all_cons ⟨_, hTI⟩ (all_cons ⟨_, hTO⟩ (all_cons ⟨_, e1⟩ (all_cons ⟨_, e2⟩ (all_cons ⟨_, e3⟩ (all_cons ⟨_, e4⟩ (fun _ h => nomatch h)))))))
  refine wpAny_newObj_type (wpAny_newFunctionEnv hcell (by intro y hy; simp at hy) (fun h₁ hns₁ hsb₁ => ?_) hkind)
  dsimp only at hns₁ hsb₁ ⊢
  generalize hH2 : s₂.heap.push { cls := .type "list", dict := none, data := .seq ([] : List Value).toArray } = H2 at hns₁ hsb₁ ⊢
  have hC : H2.objs.size = s₂.heap.objs.size + 1 := by rw [← hH2, Heap.size_push]
  have hDC : s₂.heap.objs.size ≠ H2.objs.size := by rw [hC]; exact Nat.ne_of_lt (Nat.lt_succ_self _)
  have below : ∀ b, b < s₂.heap.objs.size → b ≠ H2.objs.size ∧ b ≠ s₂.heap.objs.size := fun b hb => ⟨by rw [hC]; exact Nat.ne_of_lt (Nat.lt_succ_of_lt hb), Nat.ne_of_lt hb⟩
  have hfl : ∀ c ∈ [z, TI, TO, i1, i2, l1, l2], c < s₂.heap.objs.size := fun c hc => by obtain ⟨o, e⟩ := hfp c hc; exact Heap.lt_size e
  have hDf : s₂.heap.objs.size ∉ [z, TI, TO, i1, i2, l1, l2] := fun hm => Nat.lt_irrefl _ (hfl _ hm)
  have hCf : H2.objs.size ∉ [z, TI, TO, i1, i2, l1, l2] := fun hm => by have := hfl _ hm; rw [hC] at this; exact Nat.lt_irrefl _ (Nat.lt_of_succ_lt this)
  have hDw : s₂.heap.objs.size ∉ [z, TO, i1, i2] := fun hm => hDf (W.sub _ hm)
  have hCw : H2.objs.size ∉ [z, TO, i1, i2] := fun hm => hCf (W.sub _ hm)
  have old : ∀ b o, s₂.heap.get? b = some o → h₁.get? b = some o := fun b o e => hsb₁.extBut b o (below b (Heap.lt_size e)).1 (Heap.get?_push_of_some _ (hH2 ▸ Heap.get?_push_of_some _ e))
  have hacc : h₁.PlainList s₂.heap.objs.size #[] := ⟨_, hsb₁.extBut _ _ hDC (Heap.get?_push_of_some _ (hH2 ▸ Heap.get?_push_size _ rfl))⟩
  have hst₁ := W.frame _ _ _ hst fun b _ o e => old b o e
  have fresh : ∀ a, s₂.heap.objs.size ≤ a → s₂.heap.get? a = none := fun a ha => by
    cases e : s₂.heap.get? a with
    | none => rfl
    | some o' => exact absurd (Heap.lt_size e) (Nat.not_lt.mpr ha)
  have hD0 := fresh _ (Nat.le_refl s₂.heap.objs.size)
  have hCle : s₂.heap.objs.size ≤ H2.objs.size := by rw [hC]; exact Nat.le_succ _
  have hC0 := fresh H2.objs.size (by rw [hC]; exact Nat.le_succ _)
  have en : min xs.toArray.size ys.toArray.size = min xs.length ys.length := by simp
  rw [en] at W
  generalize hn : min xs.length ys.length = n at hsz hdone W
  have loop : ∀ s₃ : Shared, s₃ = { s₂ with heap := h₁, toks := s₂.toks + ([] : List (Str × Value)).length } →
      codeAny (model prog w) A (.compLoop (.ListComp elt [⟨.Tuple [.Name a pa, .Name b pb] kk tp, iter, [], 0⟩] scope pos) 0 (.ref z) (.ref s₂.heap.objs.size) (compEnvC scope cl H2.objs.size env))
        (RR (.ref s₂.heap.objs.size) H2.objs.size) s₃ := by
    rintro s₃ rfl
    obtain ⟨Inv, mkI, ofI⟩ : ∃ Inv : Nat → Shared → Prop, (∀ k s', ZInv s₂ n z TI TO i1 i2 l1 l2 xs ys H2.objs.size s₂.heap.objs.size f h₁ k s' → Inv k s') ∧ ∀ k s', Inv k s' → ZInv s₂ n z TI TO i1 i2 l1 l2 xs ys H2.objs.size s₂.heap.objs.size f h₁ k s' := ⟨_, fun _ _ x => x, fun _ _ x => x⟩
    refine kcp_loop Inv ?_ (n + 1) (mkI _ _ ⟨h₁, _, 0, _, rfl, Nat.zero_le _, rfl, hst₁, hns₁, hacc, fun _ _ _ _ _ e => e⟩)
    intro k s' hI
    refine cps fun P9 hP9 => ?_
    obtain ⟨h', tk, i, m', rfl, hi, rfl, hst', hn', hacc', hk'⟩ := ofI _ _ hI
    refine hP9 ?_; clear hP9 P9
    have keep : ∀ h : Heap, (∀ b o, b ∉ [z, TO, i1, i2] → b ≠ H2.objs.size → b ≠ s₂.heap.objs.size → h₁.get? b = some o → h.get? b = some o) → ∀ b o, b ∉ [z, TO, i1, i2] → s₂.heap.get? b = some o → h.get? b = some o := fun h k b o hbf e =>
      k b o hbf (below b (Heap.lt_size e)).1 (below b (Heap.lt_size e)).2 (old b o e)
    by_cases hlt : i < n
    · refine W.item i _ _ _ hlt hst' fun v h₂ tk₂ hMd hk₂ => ?_
      refine W.go i v _ _ _ hMd fun h₃ hP hst₃ hk₃ => ?_
      refine cps fun P9 hP9 => ?_
      obtain ⟨T, vals, rfl, ⟨x, y, hx, hy, rfl⟩, hT⟩ := hP
      refine hP9 ?_; clear hP9 P9
      have up₃ : ∀ c o, c ∉ [z, TO, i1, i2] → h'.get? c = some o → h₃.get? c = some o := fun c o hc e => hk₃ c o hc (hk₂ c o hc e)
      refine kcp_assign (env := compEnvC scope cl H2.objs.size env) hh hT (lookup_relabel_local hxa) (lookup_relabel_local hxb) (by simp [compEnvC, relabel, hkind]) (hn'.at' fun o e => up₃ _ o hCw e) fun h₄ tk₄ hn₄ hs₄ => ?_
      have up₄ : ∀ c o, c ∉ [z, TO, i1, i2] → c ≠ H2.objs.size → h'.get? c = some o → h₄.get? c = some o := fun c o hc hc' e => hs₄ c o hc' (up₃ c o hc e)
      have hst₄ := W.frame _ _ _ hst₃ fun c hc o e => hs₄ c o (fun q => hCf ((show c = H2.objs.size from q) ▸ hc)) e
      have k₄ : ∀ b o, b ∉ [z, TO, i1, i2] → b ≠ H2.objs.size → b ≠ s₂.heap.objs.size → h₁.get? b = some o → h₄.get? b = some o := fun c o h1 h2 h3 e => up₄ c o h1 h2 (hk' c o h1 h2 h3 e)
      refine wpAny_mono (helt H2.objs.size i x y h₄ tk₄ _ _ (by simpa using hx) (by simpa using hy) hCle hn₄ (by rw [if_neg hab, if_pos rfl]) (by rw [if_pos rfl]) (keep h₄ k₄)) (fun r s₅ h₅ => ?_) fun _ _ e => e
      obtain ⟨rfl, h₅, tk₅, rfl, hk₅⟩ := h₅
      have hys : ((List.range i).map f).toArray.size ≤ sizeLine := by
        rw [List.size_toArray, List.length_map, List.length_range, sizeLine_eq]; omega
      refine wpAny_list_append_plain (hsz := hys) (hacc'.at fun o e => hk₅ _ o (up₄ _ o hDw hDC e)) fun h₆ hl₆ hs₆ => ?_
      refine ⟨n + 1 - (i + 1), by omega, mkI _ _ ⟨h₆, _, i + 1, _, rfl, hlt, rfl, W.frame _ _ _ hst₄ fun c hc o e => hs₆.extBut c o (fun q => hDf (q ▸ hc)) (hk₅ c o e),
        (hn₄.at' fun o e => hk₅ _ o e).sameBut hs₆ (Ne.symm hDC), ?_, fun c o h1 h2 h3 e => hs₆.extBut c o h3 (hk₅ c o (k₄ c o h1 h2 h3 e))⟩⟩
      have e : ((List.range i).map f).toArray.push (f i) = ((List.range (i + 1)).map f).toArray := by rw [List.range_succ]; simp
      rw [← e]; exact hl₆
    · have hin : i = n := by omega
      subst hin
      refine W.done _ _ _ hst' fun h₂ tk₂ hk₂ => ?_
      have k₂ : ∀ b o, b ∉ [z, TO, i1, i2] → b ≠ H2.objs.size → b ≠ s₂.heap.objs.size → h₁.get? b = some o → h₂.get? b = some o := fun c o h1 h2 h3 e => hk₂ c o h1 (hk' c o h1 h2 h3 e)
      obtain ⟨nD, hD⟩ := hacc'.at (h' := h₂) fun o e => hk₂ _ o hDw e
      refine hRR _ _ h₂ tk₂ m' nD _ hD0 hC0 hDC (hn'.at' fun o e => hk₂ _ o hCw e) hD (fun h'' tk'' hs'' hE => ?_) fun b hb o e => keep h₂ k₂ b o (hex b hb).1 e
      have nex : ∀ b, s₂.heap.get? b = none → b ∉ ex := fun b e q => by obtain ⟨o, e'⟩ := (hex b q).2; rw [e] at e'; cases e'
      exact hdone h'' tk'' _ nD hD0 (hs'' _ _ hDC (nex _ hD0) hD) (fun c o hc hcx e => hs'' c o (by rintro rfl; rw [hC0] at e; cases e) hcx (keep h₂ k₂ c o hc e)) hE
  refine codeAny_compStart_list (loop _ rfl) (wpAny_pyIter_zip hst₁.1 (loop _ rfl))
theorem zip_eval {s : Shared} {elt iter : Expr} {a b : Str} {pa pb tp : Pos} {kk : Nat} {scope : Scope} {cl : List (Str × Addr)} {pos : Pos} {Q : Value → Shared → Prop} {xs ys : List Value} (f : Nat → Value)
    (hclos : closureFor scope env = pure cl) (hcell : ∀ y ∈ scope.names, y.2 ≠ .cell) (hkind : scope.kind = .function)
    (hnames : ∀ y ∈ scope.names, y.2 = .local → scope.names.lookup y.1 = some .local) (hxa : scope.names.lookup a = some .local) (hxb : scope.names.lookup b = some .local) (hab : ¬ a = b)
    (h : wpAny (model prog w) A (eval iter env) (fun xv s₁ => wpAny (model prog w) A (pyIter xv) (fun it s₂ => ZipNeed prog w A env scope cl a b xs ys f elt [] (fun _ _ => True) (fun D s' => Q (.ref D) s') it s₂) E s₁) E s)
    (hs : ∀ x, foldedSetIterable iter env x = pure x := by intro _; rfl) :
    wpAny (model prog w) A (eval (.ListComp elt [⟨.Tuple [.Name a pa, .Name b pb] kk tp, iter, [], 0⟩] scope pos) env) Q E s := by
  rw [eval_ListComp]
  refine wpAny_comprehension_free (use := none) rfl hs hclos hkind hnames (wpAny_mono h (fun xv s₁ h₁ => wpAny_mono h₁ (fun it s₂ h₂ => ?_) fun _ _ e => e) fun _ _ e => e)
  exact zip_block (RR := fun acc C => compPost (model prog w) A E none Q acc C) hcell hkind hxa hxb hab h₂ fun D C h' tk m' nD ys hD hC hDC hn hl hd hk => ⟨m', hn, fun h'' hs'' => hd h'' tk (fun b o hb _ e => hs''.extBut b o hb e) trivial⟩
theorem zip_assign {s : Shared} {elt iter : Expr} {a b y : Str} {pa pb tp py : Pos} {kk : Nat} {scope : Scope} {cl : List (Str × Addr)} {pos spos : Pos} {Q : Flow → Shared → Prop} {m : Str → Option Value} {xs ys : List Value} (f : Nat → Value)
    (hsw : swapsWith (.ListComp elt [⟨.Tuple [.Name a pa, .Name b pb] kk tp, iter, [], 0⟩] scope pos) (some (.Name y py)) spos.line env = pure true)
    (hclos : closureFor scope env = pure cl) (hcell : ∀ z ∈ scope.names, z.2 ≠ .cell) (hkind : scope.kind = .function)
    (hnames : ∀ z ∈ scope.names, z.2 = .local → scope.names.lookup z.1 = some .local) (hxa : scope.names.lookup a = some .local) (hxb : scope.names.lookup b = some .local) (hab : ¬ a = b)
    (hy : env.kindOf y = some .local) (hp : (env.scope.kind == .class || (env.scope.kind == .module && env.locals != env.globals)) = false)
    (h : wpAny (model prog w) A (eval iter env) (fun xv s₁ => wpAny (model prog w) A (pyIter xv) (fun it s₂ => s₂.heap.Ns env.locals m ∧ ZipNeed prog w A env scope cl a b xs ys f elt
      [env.locals] (fun D h => h.Ns env.locals (fun z => if z = y then some (.ref D) else m z)) (fun _ s' => Q .next s') it s₂) E s₁) E s)
    (hs : ∀ x, foldedSetIterable iter env x = pure x := by intro _; rfl) :
    wpAny (model prog w) A (exec (.Assign [.Name y py] (.ListComp elt [⟨.Tuple [.Name a pa, .Name b pb] kk tp, iter, [], 0⟩] scope pos) spos) env) Q E s := by
  rw [exec_Assign_Name_used _ _ _ _ hsw]
  refine wpAny_bind (wpAny_standAt (wpAny_bind ?_))
  show wpAny _ A (do let _ ← comprehension (.ListComp elt [⟨.Tuple [.Name a pa, .Name b pb] kk tp, iter, [], 0⟩] scope pos) scope env _ (newList []) false (eval iter env) (some (assign (.Name y py) env))) _ _ s
  refine wpAny_bind (wpAny_mono (wpAny_comprehension_free (use := some (assign (.Name y py) env)) (Q := fun _ s' => Q .next s') rfl hs hclos hkind hnames
    (wpAny_mono h (fun xv s₁ h₁ => wpAny_mono h₁ (fun it s₂ h₂ => ?_) fun _ _ e => e) fun _ _ e => e)) (fun _ s' hq => wpAny_pure (wpAny_pure hq)) fun _ _ e => e)
  obtain ⟨hn, h₂⟩ := h₂
  refine zip_block (RR := fun acc C => compPost (model prog w) A E (some (assign (.Name y py) env)) (fun _ s' => Q .next s') acc C) hcell hkind hxa hxb hab h₂ fun D C h' tk m' nD ys hD hC hDC hnC hl hd hk => ?_
  have hLC : env.locals ≠ C := by rintro rfl; obtain ⟨o, _, _, ho, _⟩ := hn; rw [hC] at ho; cases ho
  have hLD : env.locals ≠ D := by rintro rfl; obtain ⟨o, _, _, ho, _⟩ := hn; rw [hD] at ho; cases ho
  show wpAny _ A (assign (.Name y py) env (.ref D)) _ _ _
  refine wpAny_assign_Name (wpAny_storeName_local hy (hn.at' fun o e => hk _ (List.mem_singleton.mpr rfl) o e) (fun h₂ hn₂ hs₂ => ?_) hp)
  refine ⟨m', hnC.sameBut hs₂ (Ne.symm hLC), fun h₃ hs₃ => ?_⟩
  exact hd h₃ _ (fun b o hb hx e => hs₃.extBut b o hb (hs₂.extBut b o (fun q => hx (List.mem_singleton.mpr q)) e)) (hn₂.sameBut hs₃ hLC)
/-- zip of two lists of bools, called and taken -/
theorem need_zip {scope : Scope} {cl : List (Str × Addr)} {a b : Str} {xs ys : List Value} {f : Nat → Value} {elt : Expr} {ex : List Addr} {Ex : Addr → Heap → Prop} {done : Addr → Shared → Prop} {l1 l2 : Addr}
    (hh : A.handled = none) (h1 : s.heap.IsList l1 xs.toArray) (h2 : s.heap.IsList l2 ys.toArray) (hz : xs.length ≤ 100000) (hex : ∀ b ∈ ex, ∃ o, s.heap.get? b = some o) {P : Heap → Prop} (hP : ∀ h', (∀ c o, s.heap.get? c = some o → h'.get? c = some o) → P h')
    (helt : ∀ C i x y h tk E' m', xs[i]? = some x → ys[i]? = some y → Fr s.heap C h m' → m' a = some x → m' b = some y →
      wpAny (model prog w) A (eval elt (compEnvC scope cl C env)) (fun v s₃ => v = f i ∧ Keeps { s with heap := h, toks := tk } s₃) E' { s with heap := h, toks := tk })
    (hdone : ∀ h' tk D nD, s.heap.get? D = none → h'.get? D = some (listOf ((List.range (min xs.length ys.length)).map f).toArray nD) → Kp ex s.heap h' → Ex D h' → done D { s with heap := h', toks := tk }) :
    wpAny (model prog w) A (PySem.call (.type "zip") [.ref l1, .ref l2]) (fun xv s₁ => wpAny (model prog w) A (pyIter xv) (fun it s₂ => P s₂.heap ∧ ZipNeed prog w A env scope cl a b xs ys f elt ex Ex done it s₂) E s₁) E s := by
  have lt1 : l1 < s.heap.objs.size := by obtain ⟨o, e, _⟩ := h1; exact Heap.lt_size e
  have lt2 : l2 < s.heap.objs.size := by obtain ⟨o, e, _⟩ := h2; exact Heap.lt_size e
  refine call_zip_2 h1 h2 fun h' hz' hTI hTO hi1 hi2 hsz hk => ?_
  refine wpAny_pyIter_zip hz' ?_
  have new : ∀ c, c ∈ [s.heap.objs.size + 4, s.heap.objs.size + 3, s.heap.objs.size, s.heap.objs.size + 1] → s.heap.get? c = none := fun c hc => by
    apply Heap.get?_none_of_le
    simp only [List.mem_cons, List.not_mem_nil, or_false] at hc
    rcases hc with rfl | rfl | rfl | rfl <;> omega
  have st : ∀ c o, s.heap.get? c = some o → c ∉ [s.heap.objs.size + 4, s.heap.objs.size + 3, s.heap.objs.size, s.heap.objs.size + 1] := fun c o e q => by rw [new c q] at e; cases e
  refine ⟨hP h' hk, _, _, _, _, _, l1, l2, rfl, hh, ktu_apart _ _ _ lt1 lt2, Nat.le_trans (Nat.min_le_left _ _) hz, ⟨hz', hTI, ⟨_, _, hTO⟩, hi1, hi2, h1.at fun o e => hk _ o e, h2.at fun o e => hk _ o e⟩, ?_, ?_, ?_⟩
  · intro c hc
    obtain ⟨o, e⟩ := hex c hc
    exact ⟨st c o e, o, hk c o e⟩
  · intro C i x y h tk E' m' hx hy hC hn ha hb k
    exact helt C i x y h tk E' m' hx hy ⟨hn, fun c o e => k c o (st c o e) (hk c o e), Nat.le_trans (by rw [hsz]; exact Nat.le_add_right _ _) hC⟩ ha hb
  · intro h'' tk D nD hD hD' k hE
    refine hdone h'' tk D nD ?_ hD' (fun c o hc e => k c o (st c o e) hc (hk c o e)) hE
    cases z : s.heap.get? D with
    | none => rfl
    | some o => rw [hk D o z] at hD; cases hD
end
end
theorem off_A0 : True := by
  w_top off
  k_with_none
  trivial
-- A0
section
open PySem PySem.W PyProof.Rows PySem.Calls
/-! places, as ints -/
noncomputable abbrev pints (bs : List Bool) : List Int := (places bs).map fun n : Nat => (n : Int)
theorem range_sorted (n : Nat) : (List.range n).Pairwise (· < ·) := List.pairwise_lt_range
theorem places_sorted (bs : List Bool) : (places bs).Pairwise (· < ·) := (range_sorted _).filter _
theorem pints_sorted (bs : List Bool) : (pints bs).Pairwise (· < ·) := by
  unfold pints
  rw [List.pairwise_map]
  exact (places_sorted bs).imp fun h => by omega
theorem pints_mem {bs : List Bool} {x : Int} : x ∈ pints bs ↔ ∃ i : Nat, i < bs.length ∧ bs.getD i false = true ∧ x = i := by
  unfold pints places
  simp only [List.mem_map, List.mem_filter, List.mem_range]
  constructor
  · rintro ⟨i, ⟨h1, h2⟩, rfl⟩; exact ⟨i, h1, h2, rfl⟩
  · rintro ⟨i, h1, h2, rfl⟩; exact ⟨i, ⟨h1, h2⟩, rfl⟩
theorem pints_len (bs : List Bool) : (pints bs).length ≤ bs.length := by
  unfold pints places
  rw [List.length_map]
  exact Nat.le_trans (List.length_filter_le _ _) (by simp)
theorem sorted_ext : ∀ {l l' : List Int}, l.Pairwise (· < ·) → l'.Pairwise (· < ·) → (∀ x, x ∈ l ↔ x ∈ l') → l = l'
  | [], [], _, _, _ => rfl
  | [], b :: r, _, _, h => absurd ((h b).mpr (.head _)) List.not_mem_nil
  | a :: r, [], _, _, h => absurd ((h a).mp (.head _)) List.not_mem_nil
  | a :: r, b :: q, s1, s2, h => by
    rw [List.pairwise_cons] at s1 s2
    have e : a = b := by
      rcases List.mem_cons.mp ((h a).mp (.head _)) with e | e
      · exact e
      · rcases List.mem_cons.mp ((h b).mpr (.head _)) with e' | e'
        · exact e'.symm
        · have := s1.1 b e'; have := s2.1 a e; omega
    subst e
    have : r = q := sorted_ext s1.2 s2.2 fun x => by
      constructor
      · intro hx
        rcases List.mem_cons.mp ((h x).mp (.tail _ hx)) with e | e
        · have := s1.1 x hx; omega
        · exact e
      · intro hx
        rcases List.mem_cons.mp ((h x).mpr (.tail _ hx)) with e | e
        · have := s2.1 x hx; omega
        · exact e
    rw [this]
noncomputable def zipB (f : Bool → Bool → Bool) (bs cs : List Bool) : List Bool := (List.range bs.length).map fun i => f (bs.getD i false) (cs.getD i false)
theorem zipB_len {f : Bool → Bool → Bool} {bs cs : List Bool} : (zipB f bs cs).length = bs.length := by simp [zipB]
theorem zipB_at {f : Bool → Bool → Bool} {bs cs : List Bool} {i : Nat} (h : i < bs.length) : (zipB f bs cs).getD i false = f (bs.getD i false) (cs.getD i false) := by
  unfold zipB; simp [h]
theorem zip_mem {f : Bool → Bool → Bool} {bs cs : List Bool} {x : Int} : x ∈ pints (zipB f bs cs) ↔ ∃ i : Nat, i < bs.length ∧ f (bs.getD i false) (cs.getD i false) = true ∧ x = i := by
  rw [pints_mem, zipB_len]
  constructor
  · rintro ⟨i, h1, h2, e⟩; exact ⟨i, h1, by rw [zipB_at h1] at h2; exact h2, e⟩
  · rintro ⟨i, h1, h2, e⟩; exact ⟨i, h1, by rw [zipB_at h1]; exact h2, e⟩
noncomputable def deedOp (d : Int) (p q : Bool) : Bool := if d = 1 then p && q else if d = 2 then p || q else if d = 3 then p && !q else p != q
theorem at_mem {bs : List Bool} {i : Nat} (h : i < bs.length) : ((i : Int) ∈ pints bs) ↔ bs.getD i false = true := by
  rw [pints_mem]
  constructor
  · rintro ⟨k, _, h2, e⟩
    obtain rfl : i = k := by omega
    exact h2
  · intro h2; exact ⟨i, h, h2, rfl⟩
theorem told_less {bs cs : List Bool} (h : cs.length = bs.length) : (mrg (pints bs) (pints cs)).1 = pints (zipB (fun p q => deedOp 3 p q) bs cs) := by
  obtain ⟨p1, _, m1, _⟩ := mrg_mem (pints_sorted bs) (pints_sorted cs)
  refine sorted_ext p1 (pints_sorted _) fun x => ?_
  rw [m1, zip_mem]
  constructor
  · rintro ⟨h1, h2⟩
    obtain ⟨i, a, b, rfl⟩ := pints_mem.mp h1
    rw [at_mem (by omega)] at h2
    exact ⟨i, a, by rw [b]; simp only [deedOp]; simpa using h2, rfl⟩
  · rintro ⟨i, a, b, rfl⟩
    rw [at_mem a, at_mem (by omega)]
    simp only [deedOp] at b
    simpa using b
theorem told_more {bs cs : List Bool} (h : cs.length = bs.length) : (mrg (pints bs) (pints cs)).2 = pints (zipB (fun p q => deedOp 3 q p) bs cs) := by
  obtain ⟨_, p2, _, m2⟩ := mrg_mem (pints_sorted bs) (pints_sorted cs)
  refine sorted_ext p2 (pints_sorted _) fun x => ?_
  rw [m2, zip_mem]
  constructor
  · rintro ⟨h1, h2⟩
    obtain ⟨i, a, b, rfl⟩ := pints_mem.mp h1
    rw [at_mem (by omega)] at h2
    exact ⟨i, by omega, by rw [b]; simp only [deedOp]; simpa using h2, rfl⟩
  · rintro ⟨i, a, b, rfl⟩
    rw [at_mem a, at_mem (by omega)]
    simp only [deedOp] at b
    simpa using b
theorem joined_is {d : Int} {bs cs : List Bool} {ns : List Int} (h : cs.length = bs.length) (s : ns.Pairwise (· < ·))
    (m : ∀ x, x ∈ ns ↔ if d = 1 then x ∈ pints bs ∧ x ∉ pints (zipB (fun p q => deedOp 3 p q) bs cs) else if d = 2 then x ∈ pints bs ∨ x ∈ pints cs else if d = 3 then x ∈ pints (zipB (fun p q => deedOp 3 p q) bs cs) else x ∈ pints (zipB (fun p q => deedOp 3 p q) bs cs) ∨ (x ∈ pints cs ∧ x ∉ pints bs)) : ns = pints (zipB (fun p q => deedOp d p q) bs cs) := by
  refine sorted_ext s (pints_sorted _) fun x => ?_
  rw [m]
  by_cases hx : ∃ i : Nat, i < bs.length ∧ x = i
  · obtain ⟨i, hi, rfl⟩ := hx
    have hz : ∀ f : Bool → Bool → Bool, ((i : Int) ∈ pints (zipB f bs cs)) ↔ f (bs.getD i false) (cs.getD i false) = true := fun f => by rw [at_mem (by rw [zipB_len]; exact hi), zipB_at hi]
    simp only [hz, at_mem hi, at_mem (show i < cs.length by omega), deedOp]
    cases bs.getD i false <;> cases cs.getD i false <;> (repeat' split) <;> simp_all
  · have n1 : x ∉ pints bs := fun q => by obtain ⟨i, a, _, e⟩ := pints_mem.mp q; exact hx ⟨i, a, e⟩
    have n2 : x ∉ pints cs := fun q => by obtain ⟨i, a, _, e⟩ := pints_mem.mp q; exact hx ⟨i, by omega, e⟩
    have n3 : ∀ f : Bool → Bool → Bool, x ∉ pints (zipB f bs cs) := fun f q => by obtain ⟨i, a, _, e⟩ := zip_mem.mp q; exact hx ⟨i, a, e⟩
    simp only [n1, n2, n3, false_and, or_false, iff_false]
    (repeat' split) <;> simp
/-! the books, frozen -/
structure BkC where
  (b dx lam fz : Addr)
  its : List BItem
  ep : Nat
  tk : Tok
noncomputable abbrev bsOf (rws : List (Str × Str)) (sd : Int) (x : Str) : List Bool := rws.map fun r => decide (sideOf sd r = x)
structure BookAt (w : World) (hb g : Heap) (fs : List Addr) (nt : Addr) (rws : List (Str × Str)) (sd : Int) (c : BkC) : Prop where
  bo : g.get? c.b = some (bookObj c.dx c.lam (esOf w c.its) c.ep)
  bb : hb.get? c.b = none
  dxo : g.get? c.dx = some (frozenDict w c.fz c.tk)
  fz : FrzAt g c.fz c.b
  lam : LamAt g c.lam nt
  ms : (c.b == sysModules) = false
  nb : c.b ∉ fs
  nd : c.dx ∉ fs
  hit : ∀ x p, c.its.find? (fun p => decide (x = p.1)) = some p → (∃ us n, g.get? p.2.2 = some (listOf (List.toArray us) n) ∧ NatsAre us (places (bsOf rws sd x))) ∧ (bsOf rws sd x).any id = true
  miss : ∀ x, c.its.find? (fun p => decide (x = p.1)) = none → (bsOf rws sd x).any id = false
theorem BookAt.turn {w : World} {hb g g' : Heap} {outer : List Env} {nt : Addr} {rws : List (Str × Str)} {sd : Int} {c : BkC} (B : BookAt w hb g (frs outer) nt rws sd c) (O : Outs g outer) (T : KtsTurn (frs outer) g g') : BookAt w hb g' (frs outer) nt rws sd c := by
  have k : ∀ a o, g.get? a = some o → (∀ es ep, o.data ≠ .dict es ep) → g'.get? a = some o := fun a o e n => T.other _ _ e fun q => by
    obtain ⟨o', e', es, ep, d⟩ := O.atD a q
    rw [e] at e'; cases e'; exact n _ _ d
  exact ⟨T.other _ _ B.bo B.nb, B.bb, T.other _ _ B.dxo B.nd, B.fz.kept fun a o e n _ _ => k a o e n, B.lam.kept fun a o e n _ _ => k a o e n, B.ms, B.nb, B.nd,
    fun x p hf => by
      obtain ⟨⟨us, n, e, h⟩, h2⟩ := B.hit x p hf
      exact ⟨⟨us, n, k _ _ e (fun _ _ q => by cases q), h⟩, h2⟩, B.miss⟩
theorem places_none {bs : List Bool} (h : bs.any id = false) : places bs = [] := by
  unfold places
  rw [List.filter_eq_nil_iff]
  intro i hi
  rw [List.mem_range] at hi
  rw [List.any_eq_false] at h
  have := h (bs.getD i false) (by rw [List.getD_eq_getElem?_getD, List.getElem?_eq_getElem hi]; exact List.getElem_mem _)
  simpa using this
section
variable {w : World} {A : Around} {E : Value → Shared → Prop} {s : Shared} {hb g : Heap} {loose : List Str} {mean : ExcName → Option Value} {mg mb : Str → Option Value} {value slice : Expr} {Q : Value → Shared → Prop} {fs : List Addr} {nt : Addr} {rws : List (Str × Str)} {sd : Int} {c : BkC} {x : Str} {tx : Tok} {ns : Array Value} {cn : Nat} {ops : List Value}
theorem bk_ask (X : (hd.heap_1 w.params).In hb) (T : Top topProg loose mean mg mb hb) (S : hb.StaysIn g) (hroom : A.depth < 890) (hh : A.handled = none) (B : BookAt w hb g fs nt rws sd c) (K : g.StaysIn s.heap)
    (hn : s.heap.get? nt = some (listOf ns cn)) (hb0 : hb.get? nt = none) (hsz : ns.size ≤ 1000)
    (k : ∀ h' tk a us n ns' cn', Kp [nt] s.heap h' → h'.get? nt = some (listOf ns' cn') → h'.get? a = some (listOf (List.toArray us) n) → NatsAre us (places (bsOf rws sd x)) → ns'.size = ns.size + (if (bsOf rws sd x).any id then 0 else 1) →
      (g.get? a = some (listOf (List.toArray us) n) ∨ s.heap.get? a = none) → Q (.ref a) { s with heap := h', toks := tk })
    (hs : subscripted slice false (.ref c.b) (.str x tx) = operate ops (getItem (.ref c.b) (.str x tx)) := by with_unfolding_all rfl) :
    wpAny (model Challenge.rw_mq0106_01.row.prog w) A (subscriptTail value slice (.ref c.b) (.str x tx)) Q E s := by
  have S' : hb.StaysIn s.heap := fun a o e => K a o (S a o e)
  cases hf : c.its.find? (fun p => decide (x = p.1)) with
  | some p =>
    obtain ⟨⟨us, n, e, h⟩, h2⟩ := B.hit x p hf
    exact bk_hit (X.keeps S') (K _ _ B.bo) hf (k s.heap _ p.2.2 us n ns cn Kp.refl hn (K _ _ e) h (by rw [h2]; rfl) (.inl e)) hs
  | none =>
    have h2 := B.miss x hf
    refine bk_missF X T S' hroom hh B.ms (K _ _ B.bo) B.bb (K _ _ B.dxo) (B.fz.kept fun a o e _ _ _ => K a o e) hf (B.lam.kept fun a o e _ _ _ => K a o e) hn hb0 hsz (fun h' tk a t kp en ea ha => ?_) hs
    exact k h' tk a [] 0 _ _ kp en ha (by rw [places_none h2]; exact .nil) (by rw [h2]; simp) (.inr ea)
end
/-! what stands while the questions are answered -/
structure AnsB (w : World) (hb g : Heap) (outer : List Env) (ln lb lr nt : Addr) (vs : List Value) (c : Nat) (rvs : List Value) (rc : Nat) (rws : List (Str × Str)) (c1 c2 : BkC) : Prop where
  S : hb.StaysIn g
  O : Outs g outer
  num : g.get? ln = some (listOf vs.toArray c)
  bks : g.get? lb = some (listOf #[.ref c1.b, .ref c2.b] 0)
  row : g.get? lr = some (listOf rvs.toArray rc)
  rows : RowsAt g rvs rws
  B1 : BookAt w hb g (frs outer) nt rws 0 c1
  B2 : BookAt w hb g (frs outer) nt rws 1 c2
theorem RowsAt.stay {h h' : Heap} {vs : List Value} {rs : List (Str × Str)} (x : RowsAt h vs rs) (k : ∀ a o, h.get? a = some o → (∃ xs n, o.data = .seq xs n) → h'.get? a = some o) : RowsAt h' vs rs := by
  induction x with
  | nil => exact .nil
  | cons a x y tx ty e r ih => exact .cons a x y tx ty (k _ _ e ⟨_, _, rfl⟩) ih
theorem AnsB.turn {w : World} {hb g g' : Heap} {outer : List Env} {ln lb lr nt : Addr} {vs : List Value} {c : Nat} {rvs : List Value} {rc : Nat} {rws : List (Str × Str)} {c1 c2 : BkC} (B : AnsB w hb g outer ln lb lr nt vs c rvs rc rws c1 c2)
    (cl : ∀ b ∈ frs outer, hb.get? b = none) (T : KtsTurn (frs outer) g g') : AnsB w hb g' outer ln lb lr nt vs c rvs rc rws c1 c2 :=
  ⟨stays_turn B.S T cl, B.O.turn T, T.other _ _ B.num (B.O.notList B.num), T.other _ _ B.bks (B.O.notList B.bks), T.other _ _ B.row (B.O.notList B.row), B.rows.stay (fun a o e ⟨xs, n, d⟩ => T.other _ _ e fun q => by
    obtain ⟨o', e', es, ep, d'⟩ := B.O.atD a q
    rw [e] at e'; cases e'; rw [d] at d'; cases d'), B.B1.turn B.O T, B.B2.turn B.O T⟩
/-- the pile: each list has the places of its truths -/
inductive PileAt (g : Heap) (os : List (Addr × Obj)) : List Value → List (List Bool) → Prop
  | nil : PileAt g os [] []
  | cons (a us n) {bs vs bss} : (g.get? a = some (listOf (List.toArray us) n) ∨ (a, listOf (List.toArray us) n) ∈ os) → NatsAre us (places bs) → PileAt g os vs bss → PileAt g os (.ref a :: vs) (bs :: bss)
inductive PlainAt (os : List (Addr × Obj)) : List Value → List (List Bool) → Prop
  | nil : PlainAt os [] []
  | cons (a n) {bs vs bss} : (a, listOf (List.map Value.bool bs).toArray n) ∈ os → PlainAt os vs bss → PlainAt os (.ref a :: vs) (bs :: bss)
theorem PileAt.mono {g g' : Heap} {os os' : List (Addr × Obj)} {vs : List Value} {bss : List (List Bool)} (x : PileAt g os vs bss) (k : ∀ a xs n, g.get? a = some (listOf xs n) → g'.get? a = some (listOf xs n)) (k2 : ∀ p ∈ os, p ∈ os') : PileAt g' os' vs bss := by
  induction x with
  | nil => exact .nil
  | cons a us n h hu r ih => exact .cons a us n (h.imp (k _ _ _) (k2 _)) hu ih
theorem PlainAt.mono {os os' : List (Addr × Obj)} {vs : List Value} {bss : List (List Bool)} (x : PlainAt os vs bss) (k2 : ∀ p ∈ os, p ∈ os') : PlainAt os' vs bss := by
  induction x with
  | nil => exact .nil
  | cons a n h r ih => exact .cons a n (k2 _ h) ih
theorem PileAt.len {g : Heap} {os : List (Addr × Obj)} {vs : List Value} {bss : List (List Bool)} (x : PileAt g os vs bss) : vs.length = bss.length := by
  induction x with
  | nil => rfl
  | cons _ _ _ _ _ _ ih => simp [ih]
theorem PlainAt.len {os : List (Addr × Obj)} {vs : List Value} {bss : List (List Bool)} (x : PlainAt os vs bss) : vs.length = bss.length := by
  induction x with
  | nil => rfl
  | cons _ _ _ _ ih => simp [ih]
theorem PileAt.snoc {g : Heap} {os : List (Addr × Obj)} {vs : List Value} {bss : List (List Bool)} {bs : List Bool} {a : Addr} {us : List Value} {n : Nat} (x : PileAt g os vs bss) (h : g.get? a = some (listOf (List.toArray us) n) ∨ (a, listOf (List.toArray us) n) ∈ os) (hu : NatsAre us (places bs)) : PileAt g os (vs ++ [.ref a]) (bss ++ [bs]) := by
  induction x with
  | nil => exact .cons a us n h hu .nil
  | cons a us n h hu r ih => exact .cons a us n h hu ih
theorem PlainAt.snoc {os : List (Addr × Obj)} {vs : List Value} {bss : List (List Bool)} {bs : List Bool} {a : Addr} {n : Nat} (x : PlainAt os vs bss) (h : (a, listOf (List.map Value.bool bs).toArray n) ∈ os) : PlainAt os (vs ++ [.ref a]) (bss ++ [bs]) := by
  induction x with
  | nil => exact .cons a n h .nil
  | cons a n h r ih => exact .cons a n h ih
theorem PileAt.split {g : Heap} {os : List (Addr × Obj)} {bss : List (List Bool)} {bs : List Bool} : ∀ {vs : List Value}, PileAt g os vs (bss ++ [bs]) → ∃ ws a us n, vs = ws ++ [.ref a] ∧ PileAt g os ws bss ∧ (g.get? a = some (listOf (List.toArray us) n) ∨ (a, listOf (List.toArray us) n) ∈ os) ∧ NatsAre us (places bs) := by
  induction bss with
  | nil =>
    intro vs x
    cases x with
    | cons a us n h hu r => cases r; exact ⟨[], a, us, n, rfl, .nil, h, hu⟩
  | cons b r ih =>
    intro vs x
    cases x with
    | cons a us n h hu q =>
      obtain ⟨ws, a', us', n', rfl, p, h', hu'⟩ := ih q
      exact ⟨.ref a :: ws, a', us', n', rfl, .cons a us n h hu p, h', hu'⟩
theorem PlainAt.split {os : List (Addr × Obj)} {bss : List (List Bool)} {bs : List Bool} : ∀ {vs : List Value}, PlainAt os vs (bss ++ [bs]) → ∃ ws a n, vs = ws ++ [.ref a] ∧ PlainAt os ws bss ∧ (a, listOf (List.map Value.bool bs).toArray n) ∈ os := by
  induction bss with
  | nil =>
    intro vs x
    cases x with
    | cons a n h r => cases r; exact ⟨[], a, n, rfl, .nil, h⟩
  | cons b r ih =>
    intro vs x
    cases x with
    | cons a n h q =>
      obtain ⟨ws, a', n', rfl, p, h'⟩ := ih q
      exact ⟨.ref a :: ws, a', n', rfl, .cons a n h p, h'⟩
end
theorem off_X3 : True := by
  w_top off
  k_with_none
  trivial
-- X3
section
open PySem PySem.W PyProof.Rows PySem.Calls
section
variable {M : Model} {A : Around} {E : Value → Shared → Prop} {s : Shared} {g h : Heap} {L e : Addr} {m : Str → Option Value} {news : List (Addr × Obj)} {env : Env} {outer : List Env}
theorem note_core {oe : Obj} {vs : Array Value} {Q : Unit → Shared → Prop} {head : Value} {hn : Bool} (hfr : A.frames = some (env :: outer)) (hf : env.frame = some L) (hk : env.scope.kind ≠ .module) (O : Outs g outer) (F : Fr g L h m) (N : News g L h news)
    (hkeep : ∀ b o, h.get? b = some o → s.heap.get? b = some o) (hnew : h.get? e = none) (he : s.heap.get? e = some oe) (hd : oe.data = .fields vs) (h1 : vs[1]? = some head)
    (k : ∀ h' g' T oT, KtsTurn (frs outer) g g' → Fr g' L h' m → News g' L h' ((e, oe.mapFields (·.setIfInBounds 1 (.ref T))) :: (T, oT) :: news) → AllNe T ((e, oe.mapFields (·.setIfInBounds 1 (.ref T))) :: news) → TbObj (rawInt L) oT → Q () { s with heap := h' }) :
    wpAny M A (do setField (.ref e) 1 (← EntryCells.newEntry head (← frameOf env) .none (rawInt L) .none (← entryPlaceOf L hn))) Q E s := by
  obtain ⟨oL, es, ep, hL, hLd, hLr⟩ := id F.ns
  have hl : s.heap.FunFrames (hideAll s.heap (frs (env :: outer))) (env :: outer) := by
    refine ⟨hk, ⟨L, oL, hf, hideAll_none _ (List.mem_filterMap.mpr ⟨env, .head _, hf⟩), hkeep _ _ hL, fun vs q => by rw [hLd] at q; cases q⟩, Outs.funs O (fun b o q => hkeep _ _ (F.keep b o q)) fun e he a ha => List.mem_filterMap.mpr ⟨e, .tail _ he, ha⟩⟩
  have hene : e ∉ (env :: outer).filterMap (·.frame) := fun hm => by
    obtain ⟨_, o, ho, hnf⟩ := hl.mem hm
    rw [he] at ho; injection ho with ho; subst ho; exact hnf vs hd
  refine wpAny_bind (wpAny_frameOf_fun hfr hl hf fun h₁ hs₁ => ?_)
  refine wpAny_bind (wpAny_entryPlaceOf fun pl hpl => ?_)
  unfold EntryCells.newEntry newFields
  refine wpAny_bind (wpAny_newObj_type ?_ (hpl.sizeOk5 _ _ _ _ _))
  have he₁ : h₁.get? e = some oe := (hs₁.2.1 e hene).trans he
  have hsz : 1 < vs.size := (Array.getElem?_eq_some_iff.mp h1).1
  generalize hob : ({ cls := .type "traceback", dict := none, data := .fields ([head, .ref L, .none, rawInt L, .none] ++ (if pl.isEmpty then List.replicate 6 Value.none else pl)).toArray } : Obj) = ob
  have he₂ := Heap.get?_push_of_some (h := h₁) ob he₁
  refine wpAny_setField he₂ hd hsz ?_
  have hTe : h₁.objs.size ≠ e := Nat.ne_of_gt (Heap.lt_size he₁)
  have hd₃ := Obj.data_mapFields hd (·.setIfInBounds 1 (Value.ref h₁.objs.size))
  have he₃ := Heap.get?_update_self (Obj.mapFields (·.setIfInBounds 1 (Value.ref h₁.objs.size))) he₂ (Obj.isFreed_of_fields hd₃)
  have hT₃ := (Heap.get?_update_other (h₁.push ob) (Obj.mapFields (·.setIfInBounds 1 (Value.ref h₁.objs.size))) (Ne.symm hTe)).trans (Heap.get?_push_size h₁ (by rw [← hob]; rfl))
  have keep : ∀ b o, b ≠ e → h₁.get? b = some o → ((h₁.push ob).update e (Obj.mapFields (·.setIfInBounds 1 (Value.ref h₁.objs.size)))).get? b = some o := fun b o hbe hb => by
    rw [Heap.get?_update_other _ _ (Ne.symm hbe)]
    exact Heap.get?_push_of_some _ hb
  have hfs : (env :: outer).filterMap (·.frame) = L :: frs outer := by rw [List.filterMap_cons, hf]; rfl
  obtain ⟨g', KT, F', N'⟩ := turn_to (h' := (h₁.push ob).update e (Obj.mapFields (·.setIfInBounds 1 (Value.ref h₁.objs.size)))) O F hnew (fun b o n1 n2 q => keep b o n2 ((hs₁.2.1 b (by rw [hfs]; exact n1)).trans (hkeep _ _ q)))
    (fun b o n q => by
      obtain ⟨sl, hs⟩ := hs₁.2.2 b o (hkeep _ _ q)
      exact ⟨sl, keep b _ n hs⟩)
  have up : ∀ b o, h.get? b = some o → b < h₁.objs.size := fun b o q => by
    obtain ⟨sl, hs⟩ := hs₁.2.2 b o (hkeep _ _ q)
    exact Heap.lt_size hs
  have gT : g.get? h₁.objs.size = none := by
    cases q : g.get? h₁.objs.size with
    | none => rfl
    | some o => exact absurd (up _ _ (F.keep _ _ q)) (Nat.lt_irrefl _)
  have ge : g.get? e = none := by
    cases q : g.get? e with
    | none => rfl
    | some o => have := F.keep _ _ q; rw [hnew] at this; cases this
  refine k _ g' h₁.objs.size ob KT F' ?_ (allNe_of fun p hp => ?_) ⟨_, by rw [← hob], by simp⟩
  · intro p hp
    rcases List.mem_cons.mp hp with rfl | hp
    · exact ⟨he₃, (fun (q : e = L) => by
        rw [← q, hnew] at hL
        cases hL), KT.none_ _ ge⟩
    · rcases List.mem_cons.mp hp with rfl | hp
      · exact ⟨hT₃, Nat.ne_of_gt (up _ _ hL), KT.none_ _ gT⟩
      · exact N' N p hp
  · rcases List.mem_cons.mp hp with rfl | hp
    · exact Ne.symm hTe
    · exact Nat.ne_of_lt (up _ _ (N p hp).1)
variable {T : Addr} {oe oT : Obj} {fl : Value} {X : String}
/-- noting in the frame of the caller -/
theorem note_next {Q : Unit → Shared → Prop} (hfr : A.frames = some (env :: outer)) (hf : env.frame = some L) (hk : env.scope.kind ≠ .module) (O : Outs g outer) (F : Fr g L s.heap m) (N : News g L s.heap ((e, oe) :: (T, oT) :: news))
    (ne : AllNe T ((e, oe) :: news)) (nn : AllNe e news) (xe : ExcObj X T oe) (xt : TbObj fl oT) (hfl : (fl == rawInt L) = false)
    (k : ∀ h' g' T' oe' oT', KtsTurn (frs outer) g g' → Fr g' L h' m → News g' L h' ((e, oe') :: (T', oT') :: news) → AllNe T' ((e, oe') :: news) → ExcObj X T' oe' → TbObj (rawInt L) oT' → Q () { s with heap := h' }) :
    wpAny M A (noteFrame (.ref e) env) Q E s := by
  obtain ⟨vs, hd, h1⟩ := xe.flds
  obtain ⟨ts, hdt, h3⟩ := xt.flds
  have he := News.get N (.head _)
  have hT := News.get N (.tail _ (.head _))
  have hsz : 3 < ts.size := (Array.getElem?_eq_some_iff.mp h3).1
  have hsz1 : 1 < vs.size := (Array.getElem?_eq_some_iff.mp h1).1
  have hTL : T ≠ L := (N _ (.tail _ (.head _))).2.1
  have heL : e ≠ L := (N _ (.head _)).2.1
  have hTg : g.get? T = none := (N _ (.tail _ (.head _))).2.2
  have heg : g.get? e = none := (N _ (.head _)).2.2
  have heT : e ≠ T := ne.1
  unfold noteFrame
  simp only [hf]
  refine wpAny_bind (wpAny_field he hd h1 ?_)
  rw [if_pos (show (Value.ref T != Value.none) = true from by simp)]
  refine wpAny_bind (wpAny_field hT hdt h3 ?_)
  rw [if_neg (by rw [hfl]; decide)]
  refine wpAny_bind (wpAny_setField hT hdt hsz ?_)
  have other : ∀ b, b ≠ T → (s.heap.update T (Obj.mapFields (·.setIfInBounds 3 Value.none))).get? b = s.heap.get? b := fun b hb => Heap.get?_update_other _ _ (Ne.symm hb)
  have hne : ∀ p ∈ news, p.1 ≠ e ∧ p.1 ≠ T := fun p hp => ⟨allNe_mem nn p hp, allNe_mem ne.2 p hp⟩
  have st : ∀ b o, b ∉ [e, T] → s.heap.get? b = some o → (hideAll s.heap [e, T]).get? b = some o := fun b o n q => hideAll_get _ q n
  refine note_core (m := m) (h := hideAll s.heap [e, T]) (e := e) (oe := oe) (vs := vs) hfr hf hk O ⟨?_, fun b o q => st b o (fun z => ?_) (F.keep b o q), F.above⟩ (news := news) (fun p hp => ⟨st _ _ (fun z => ?_) (N p (.tail _ (.tail _ hp))).1, (N p (.tail _ (.tail _ hp))).2⟩)
    (fun b o q => ?_) (hideAll_none _ (.head _)) ((other e heT).trans he) hd h1 fun h' g' T' oT' KT F' N' ne' xt' => ?_
  · obtain ⟨oL, es, ep, hL, r⟩ := F.ns
    exact ⟨oL, es, ep, st _ _ (by simp [Ne.symm heL, Ne.symm hTL]) hL, r⟩
  · simp only [List.mem_cons, List.not_mem_nil, or_false] at z
    rcases z with rfl | rfl
    · rw [heg] at q; cases q
    · rw [hTg] at q; cases q
  · simp only [List.mem_cons, List.not_mem_nil, or_false] at z
    rcases z with z | z
    · exact (hne p hp).1 z
    · exact (hne p hp).2 z
  · have q' := of_hideAll _ q
    refine (other b fun z => ?_).trans q'
    have hn2 : (hideAll s.heap [e, T]).get? T = none := hideAll_none _ (.tail _ (.head _))
    rw [z, hn2] at q; cases q
  · exact k h' g' T' _ oT' KT F' N' ne' ⟨(Obj.cls_mapFields _ _).trans xe.cls, _, Obj.data_mapFields hd _, by simp [hsz1]⟩ xt'
end
end
theorem off_X4 : True := by
  w_top off
  k_with_none
  trivial
-- X4
section
open PySem PySem.W PyProof.Rows PySem.Calls
section
variable {prog : Program} {w : World} {A : Around} {E : Value → Shared → Prop} {s : Shared} {g : Heap} {L e T : Addr} {m : Str → Option Value} {oe oT : Obj} {fl : Value} {news : List (Addr × Obj)}
  {b₀ : Stmt} {suite : List Stmt} {pos np : Pos} {rest : List ExceptHandler} {Q : Flow → Shared → Prop} {p : Program} {loose : List Str} {mg mb : Str → Option Value} {x : Str} {X T' : String} {env : Env}
/-- caught_by, in whatever block -/
theorem caught_any (F : Fr g L s.heap m) (N : News g L s.heap ((e, oe) :: (T, oT) :: news)) (ne : AllNe T ((e, oe) :: news)) (xe : ExcObj X T oe) (xt : TbObj fl oT) (TT : TopRead p loose mg mb g) (hv : bootBuiltins x = some (.type T'))
    (hexc : isSubtype (.type T') (.type "BaseException") = pure true) (hnt : isSubtype (.type ((Manifest.find? T').elim "type" fun y => y.metatype)) (.type "tuple") = pure false) (hsub : isSubtype (.type X) (.type T') = pure true)
    (hg : env.globals = mainGlobals) (hbu : env.builtins = builtinsNs)
    (k : ∀ h' oT', Fr g L h' m → News g L h' ((e, oe) :: (T, oT') :: news) → TbObj .none oT' →
      wpAny (model prog w) (A.mark (some (.ref e))) (execs (b₀ :: suite) env) Q
        (notedBy (model prog w) (A.mark (some (.ref e))) env (cameBackBy (model prog w) A env E)) { s with heap := h' })
    (h1 : x ∉ startupNames := by decide +kernel) (h2 : x ∉ loose := by decide +kernel) (h3 : x ∉ (recsOf p).map (·.name) := by decide +kernel) (h4 : x ∉ (litsOf p).map (·.1) := by decide +kernel) (h4c : x ∉ (clssOf p loose).map (·.name) := by decide +kernel) (hn : x ≠ "__name__" := by decide +kernel)
    (hk : env.scope.kind = .function := by rfl) (hx : env.kindOf x = some .globalImplicit := by rfl) (hd : (x == ("__debug__" : Str)) = false := by decide) :
    wpAny (model prog w) A (setFlight (.ref e) none) (fun _ s₃ =>
        wpAny (model prog w) A (handleBy (.ref e) env (.ExceptHandler (some (.Name x np)) none (b₀ :: suite) pos :: rest)) Q E s₃) E s := by
  refine flight_to F N ne xe xt fun h' oT' F' N' xt' => ?_
  refine wpAny_handleBy_builtin (X := X) (T := T') (b := true) hexc hnt hsub (Calls.Name_function_global hk hx (Calls.loadGlobal_builtin (mg := mg) (mb := mb) (by rw [hg]; exact TT.g.keeps F'.keep) (TT.free x h1 h2 h3 h4 h4c) (by rw [hbu]; exact TT.b.keeps F'.keep) ((TT.builtins x hn).trans hv) ⟨rfl, ⟨oe, N'.get (.head _), xe.cls⟩, ?_⟩) hd)
  exact flight_to F' N' ne xe xt' fun h'' oT'' F'' N'' xt'' => k h'' oT'' F'' N'' xt''
end
end
theorem off_A2 : True := by
  w_top off
  k_with_none
  trivial
-- A2
section
open PySem PySem.W PyProof.Rows PySem.Calls
/-- a state between two questions -/
structure AnsD where
  (g h : Heap)
  tk : Nat
  m : Str → Option Value
  (oi oA oD oW : Obj)
  (pvs qvs : List Value)
  (cp cq : Nat)
  ns : Array Value
  cn : Nat
  os : List (Addr × Obj)
  bss : List (List Bool)
noncomputable abbrev ansLed (L it lp lq nt : Nat) (oi : Obj) (pvs : List Value) (cp : Nat) (qvs : List Value) (cq : Nat) (ns : Array Value) (cn : Nat) (oW oD oA : Obj) (os : List (Addr × Obj)) : List (Addr × Obj) :=
  (it, oi) :: (lp, listOf pvs.toArray cp) :: (lq, listOf qvs.toArray cq) :: (nt, listOf ns cn) :: (L + 1 + 1 + 1, oW) :: (L + 1 + 1, oD) :: (L + 1, oA) :: os
/-- the addresses that stand -/
structure AnsC where
  (ln lb lr nt L it lp lq : Addr)
  vs : List Value
  c : Nat
  rvs : List Value
  rc : Nat
  rws : List (Str × Str)
  (c1 c2 : BkC)
noncomputable abbrev AnsC.led (C : AnsC) (d : AnsD) : List (Addr × Obj) := ansLed C.L C.it C.lp C.lq C.nt d.oi d.pvs d.cp d.qvs d.cq d.ns d.cn d.oW d.oD d.oA d.os
structure AnsOk (w : World) (hb g₀ : Heap) (outer : List Env) (C : AnsC) (b : Nat) (d : AnsD) : Prop where
  B : AnsB w hb d.g outer C.ln C.lb C.lr C.nt C.vs C.c C.rvs C.rc C.rws C.c1 C.c2
  KT : KtsTurn (frs outer) g₀ d.g
  F : Fr d.g C.L d.h d.m
  mP : d.m "pile" = some (.ref C.lp)
  mQ : d.m "plain" = some (.ref C.lq)
  mB : d.m "books" = some (.ref C.lb)
  mR : d.m "rows" = some (.ref C.lr)
  mN : d.m "notes" = some (.ref C.nt)
  mT : ∃ t, d.m "runs" = some (.int d.ns.size t)
  N : News d.g C.L d.h (C.led d)
  nd : Nd (C.led d)
  cA : ∃ v, d.oA.data = .cell v
  cD : ∃ v, d.oD.data = .cell v
  cW : ∃ v, d.oW.data = .cell v
  P : PileAt d.g d.os d.pvs d.bss
  Q : PlainAt d.os d.qvs d.bss
  z : ∀ bs ∈ d.bss, bs.length = C.rws.length
  zp : d.bss.length ≤ b
  zn : d.ns.size ≤ 50 + b
theorem exec_mid {M : Model} {A : Around} {E : Value → Shared → Prop} {s : Shared} {t : Sem Flow} {Q : Flow → Shared → Prop} (Mid : Shared → Prop)
    (h1 : wpAny M A t (fun f s' => f = .next ∧ Mid s') E s) (h2 : ∀ s', Mid s' → Q .next s') : wpAny M A t Q E s :=
  wpAny_mono h1 (fun f s' ⟨e, m⟩ => by subst e; exact h2 s' m) fun _ _ e => e
section
variable {M : Model} {A : Around} {E : Value → Shared → Prop} {s : Shared} {env : Env} {g : Heap} {L c : Addr} {m : Str → Option Value} {pre post : List (Addr × Obj)} {o : Obj} {v : Value} {x : Str} {Q : Unit → Shared → Prop}
/-- a cell of the frame is stored -/
theorem cell_store (F : Fr g L s.heap m) (N : News g L s.heap (pre ++ (c, o) :: post)) (nd : Nd (pre ++ (c, o) :: post)) (hd : ∃ v, o.data = .cell v) (hc : env.cells.lookup x = some c)
    (k : ∀ h' o', Fr g L h' m → News g L h' (pre ++ (c, o') :: post) → o'.data = .cell (some v) → Q () { s with heap := h' }) (hk : env.scope.kind = .function := by rfl) (hl : env.kindOf x = some .cell := by rfl) :
    wpAny M A (storeName env x v) Q E s := by
  obtain ⟨v₀, hd⟩ := hd
  have hm : (c, o) ∈ pre ++ (c, o) :: post := List.mem_append_right _ (.head _)
  refine wpAny_storeName_cell hk hl hc (v₀ := v₀) ⟨o, News.get N hm, hd⟩ fun h' hv hs => ?_
  obtain ⟨o', e, hd'⟩ := hv
  exact k h' o' (Fr.put F N hm (kp_same hs)) (News.put N nd (kp_same hs) e) hd'
end
/-- a new object of the ledger -/
theorem led_add {g h h' : Heap} {L a : Addr} {o : Obj} {m : Str → Option Value} {pre pre' os : List (Addr × Obj)} (F : Fr g L h m) (N : News g L h (pre' ++ os)) (N' : News g L h' (pre ++ os)) (hp : pre'.map Prod.fst = pre.map Prod.fst) (nd : Nd (pre ++ os)) (fr : h.get? a = none) (e : h'.get? a = some o) :
    News g L h' (pre ++ (a, o) :: os) ∧ Nd (pre ++ (a, o) :: os) := by
  have aL : a ≠ L := fun q => by
    obtain ⟨oL, es, ep, hL, _⟩ := F.ns
    rw [q, hL] at fr; cases fr
  have ga : g.get? a = none := by
    cases q : g.get? a with
    | none => rfl
    | some z => have := F.keep _ _ q; rw [fr] at this; cases this
  have fa := fresh_ne N fr
  refine ⟨fun p hq => ?_, ?_⟩
  · rcases List.mem_append.mp hq with hq | hq
    · exact N' p (List.mem_append_left _ hq)
    · rcases List.mem_cons.mp hq with rfl | hq
      · exact ⟨e, aL, ga⟩
      · exact N' p (List.mem_append_right _ hq)
  · unfold Nd at nd ⊢
    rw [List.map_append, hp] at fa
    rw [List.map_append] at nd
    rw [List.map_append, List.map_cons]
    rw [List.nodup_append] at nd ⊢
    rw [List.mem_append, not_or] at fa
    refine ⟨nd.1, List.nodup_cons.mpr ⟨fa.2, nd.2.1⟩, fun u hu v hv => ?_⟩
    rcases List.mem_cons.mp hv with rfl | hv
    · exact fun z => fa.1 (z ▸ hu)
    · exact nd.2.2 u hu v hv
theorem bools_all {h : Heap} : ∀ bs : List Bool, ReadsAll h (bs.map Value.bool) (bs.map PyData.bool) []
  | [] => .nil
  | b :: r => by
    have := ReadsAll.cons (Reads.bool (h := h) b) (bools_all (h := h) r)
    simpa using this
theorem bools_lay : ∀ bs : List Bool, PyData.canLayAll0 (bs.map PyData.bool) = true
  | [] => by simp [PyData.canLayAll0]
  | b :: r => by simp [PyData.canLayAll0, PyData.canLay0, bools_lay r]
theorem bools_any : ∀ bs : List Bool, ((bs.map PyData.bool).any fun y => PyData.eqv y (.bool true)) = bs.any id
  | [] => rfl
  | b :: r => by
    have := bools_any r
    simp only [List.map_cons, List.any_cons, this]
    cases b <;> rfl
section
variable {prog : Program} {w : World} {A : Around} {E : Value → Shared → Prop} {s : Shared} {l : Addr} {bs : List Bool} {n : Nat} {Q : Value → Shared → Prop}
theorem in_bools (hl : s.heap.get? l = some (listOf (List.map Value.bool bs).toArray n)) (hu : A.units + 64 < cLine) (h : Q (.bool (bs.any id)) s) : wpAny (model prog w) A (compareOp .In (.bool true) (.ref l)) Q E s := by
  refine SeqAt.in_list_reads (xs := bs.map PyData.bool) (Reads.list hl rfl rfl (by simpa using bools_all bs)) (Reads.bool true) (bools_lay bs) rfl ?_ (by rw [bools_any]; exact h)
  have : (PyData.bool true).depth ≤ 1 := by decide
  have := Nat.min_le_right (PyData.depthAll (bs.map PyData.bool)) (PyData.bool true).depth
  omega
end
section
variable {prog : Program} {w : World} {A : Around} {E : Value → Shared → Prop} {s : Shared} {l : Addr} {vs : List Value} {v : Value} {n : Nat} {u : Tok} {value slice : Expr} {Q : Value → Shared → Prop}
theorem last_at (hl : s.heap.get? l = some (listOf (vs ++ [v]).toArray n)) (h : Q v s)
    (hs : subscripted slice false (.ref l) (.int (-1) u) = operate [.ref l, .int (-1) u] (getItem (.ref l) (.int (-1) u)) := by with_unfolding_all rfl) (hg : ∀ r, letTemporaryGo value (.ref l) r = pure () := by intro _; with_unfolding_all rfl) :
    wpAny (model prog w) A (subscriptTail value slice (.ref l) (.int (-1) u)) Q E s := item_last ⟨_, hl, rfl, n, rfl⟩ h hs hg
end
theorem askB {w : World} {hb g : Heap} {outer : List Env} {ln lb lr nt : Addr} {vs : List Value} {c : Nat} {rvs : List Value} {rc : Nat} {rws : List (Str × Str)} {c1 c2 : BkC} (B : AnsB w hb g outer ln lb lr nt vs c rvs rc rws c1 c2) {asked : Int} (h0 : 0 ≤ asked) (h1 : asked < 8) :
    (asked.fdiv 4 = 0 ∨ asked.fdiv 4 = 1) ∧ ∃ cS, BookAt w hb g (frs outer) nt rws (asked.fdiv 4) cS ∧ [Value.ref c1.b, Value.ref c2.b][(asked.fdiv 4).toNat]? = some (.ref cS.b) := by
  have e : asked.fdiv 4 = asked / 4 := Int.fdiv_eq_ediv_of_nonneg _ (by decide)
  rw [e]
  have : asked / 4 = 0 ∨ asked / 4 = 1 := by omega
  refine ⟨this, ?_⟩
  rcases this with q | q
  · rw [q]; exact ⟨c1, B.B1, rfl⟩
  · rw [q]; exact ⟨c2, B.B2, rfl⟩
end
theorem off_A3 : True := by
  w_top off
  k_with_none
  trivial
-- A3
section
open PySem PySem.W PyProof.Rows PySem.Calls PyProof.V PySem.Spec PySem.SeqAt
section
variable {w : World} {A : Around} {s : Shared} {hb : Heap} {loose : List Str} {mean : ExcName → Option Value} {mg mb : Str → Option Value}
variable {outer : List Env} {E : Value → Shared → Prop} {g : Heap} {L : Addr} {m : Str → Option Value} {news : List (Addr × Obj)} {env : Env}
theorem joined_call (X : (hd.heap_1 w.params).In hb) (T : Top topProg loose mean mg mb hb) (S : hb.StaysIn g) (hroom : A.depth < 925) (hh : A.handled = none) (hl1 : Str.ofString "IndexError" ∉ loose) (hl2 : Str.ofString "IndexError" ∉ (clssOf topProg loose).map (·.name)) (K : Stk A hb g outer)
    (hf : env.frame = some L) (hk : env.scope.kind ≠ .module) (F : Fr g L s.heap m) (N : News g L s.heap news) {ll lu lb : Addr} {vl vu vb : List Value} {cl cu cb : Nat} {es us bs : List Int} {d : Int} {dt : Tok}
    (hl : s.heap.get? ll = some (listOf vl.toArray cl)) (hu : s.heap.get? lu = some (listOf vu.toArray cu)) (hb' : s.heap.get? lb = some (listOf vb.toArray cb)) (il : IntsAre vl es) (iu : IntsAre vu us) (ib : IntsAre vb bs)
    (sl : es.Pairwise (· < ·)) (su : us.Pairwise (· < ·)) (sb : bs.Pairwise (· < ·)) (zl : es.length ≤ 20) (zu : us.length ≤ 20) (zb : bs.length ≤ 20) (sub : ∀ x ∈ bs, x ∈ es) {Q : Value → Shared → Prop}
    (k : ∀ g' h' tk a us' n ns, KtsTurn (frs outer) g g' → Fr g' L h' m → News g' L h' news → h'.get? a = some (listOf (List.toArray us') n) → (s.heap.get? a = none ∨ a = lb) → IntsAre us' ns → ns.Pairwise (· < ·) →
      (∀ x, x ∈ ns ↔ if d = 1 then x ∈ es ∧ x ∉ bs else if d = 2 then x ∈ es ∨ x ∈ us else if d = 3 then x ∈ bs else x ∈ bs ∨ (x ∈ us ∧ x ∉ es)) → Q (.ref a) { s with heap := h', toks := tk }) :
    wpAny (model Challenge.rw_mq0106_01.row.prog w) (A.deeper env) (PySem.call (.ref 260) [.ref ll, .ref lu, .ref lb, .int d dt]) Q E s := by
  have K' : Stk (A.deeper env) hb s.heap (env :: outer) := K.push F S hf hk
  refine wpAny_call ?_
  refine joined_spec (A := A.deeper env) X T (fun a o e => F.keep _ _ (S a o e)) (by rw [depth_deeper]; omega) hh hl1 hl2 K' hl hu hb' il iu ib sl su sb zl zu zb sub ?_
  intro h' tk a us' n ns kp ea ha ii pp mm
  have efs : frs (env :: outer) = L :: frs outer := by unfold frs; rw [List.filterMap_cons, hf]
  rw [efs] at kp
  obtain ⟨g', KT, F', N'⟩ := turn_call K.outs F kp
  exact k g' h' tk a us' n ns KT F' (N' N) ea ha ii pp mm
end
/-- a list of the ledger is popped -/
theorem pop_last {prog : Program} {w : World} {A : Around} {E : Value → Shared → Prop} {s : Shared} {l : Addr} {vs : List Value} {v : Value} {n : Nat} {Q : Value → Shared → Prop} (hl : s.heap.get? l = some (listOf (vs ++ [v]).toArray n)) (hz : vs.length ≤ 10000)
    (k : ∀ h', Heap.SameBut l s.heap h' → h'.get? l = some (listOf vs.toArray (n + 1)) → Q v { s with heap := h' }) : wpAny (model prog w) A (PySem.call (.builtin "list.pop") [.ref l]) Q E s := by
  refine PyProof.Rows.Copied.pop_at (y := v) hl (by simp) (fun h' hs e => k h' hs ?_) (by rw [List.size_toArray, List.length_append, List.length_singleton, sizeLine_eq]; omega)
  rw [e]
  simp
theorem unpack2 {prog : Program} {w : World} {A : Around} {E : Value → Shared → Prop} {s : Shared} {g : Heap} {L t : Addr} {m : Str → Option Value} {news : List (Addr × Obj)} {a b : Value} {n : Nat} {Q : List Value → Shared → Prop} (hh : A.handled = none) (F : Fr g L s.heap m) (N : News g L s.heap news)
    (ht : (t, ({ cls := .type "tuple", data := .seq #[a, b] } : Obj)) ∈ news) (hn : n = 2) (k : ∀ h', Fr g L h' m → News g L h' news → Q [a, b] { s with heap := h' }) : wpAny (model prog w) A (unpackItems (.ref t) n none) Q E s := by
  subst hn
  refine wpAny_unpackItems_tuple (items := #[a, b]) hh ⟨_, News.get N ht, rfl, _, rfl⟩ fun h' he => ?_
  have kp : Kp [] s.heap h' := fun b o _ e => he b o (Nat.ne_of_lt (Heap.lt_size e)) e
  exact k h' (fr_kp0 F kp) (news_kp0 N kp)
theorem nd_cons {a : Addr} {o : Obj} {l : List (Addr × Obj)} (h : AllNe a l) (nd : Nd l) : Nd ((a, o) :: l) := by
  unfold Nd at nd ⊢
  rw [List.map_cons, List.nodup_cons]
  refine ⟨fun q => ?_, nd⟩
  obtain ⟨p, hp, e⟩ := List.mem_map.mp q
  exact allNe_mem h p hp e
theorem led_mid {g h : Heap} {L : Addr} {x pre os : List (Addr × Obj)} (N : News g L h (x ++ (pre ++ os))) (nd : Nd (x ++ (pre ++ os))) : News g L h (pre ++ (x ++ os)) ∧ Nd (pre ++ (x ++ os)) := by
  have p : (pre ++ (x ++ os)).Perm (x ++ (pre ++ os)) := by
    rw [← List.append_assoc, ← List.append_assoc]
    exact List.perm_append_comm.append_right os
  exact ⟨fun q hq => N q (p.mem_iff.mp hq), (p.map Prod.fst).nodup_iff.mpr nd⟩
theorem fr_map {g h h' : Heap} {L : Addr} {m m' : Str → Option Value} (F : Fr g L h m) (kp : Kp [L] h h') (hn : h'.Ns L m') : Fr g L h' m' :=
  ⟨hn, fun b o e => kp b o (fun q => by rw [List.mem_singleton.mp q, fr_none F] at e; cases e) (F.keep b o e), F.above⟩
theorem news_map {g h h' : Heap} {L : Addr} {news : List (Addr × Obj)} (N : News g L h news) (kp : Kp [L] h h') : News g L h' news := news_kp N kp fun p hp q => (N p hp).2.1 (List.mem_singleton.mp q)
section
variable {prog : Program} {w : World} {A : Around} {E : Value → Shared → Prop} {s : Shared} {Q : Value → Shared → Prop}
theorem ints_data {h : Heap} {a : Addr} {vs : List Value} {ns : List Int} {n : Nat} (e : h.get? a = some (listOf vs.toArray n)) (i : IntsAre vs ns) : Reads h (.ref a) (.list (ns.map PyData.int)) [a] := reads_of_ints ⟨_, e, rfl, n, rfl⟩ i
theorem tup2_data {h : Heap} {t a b : Addr} {d1 d2 : PyData} {as bs : List Addr} (e : h.get? t = some (tup2 a b)) (r1 : Reads h (.ref a) d1 as) (r2 : Reads h (.ref b) d2 bs) : Reads h (.ref t) (.tuple [d1, d2]) (as ++ (bs ++ [])) :=
  Reads.tuple e rfl rfl (ReadsAll.cons r1 (ReadsAll.cons r2 .nil))
theorem two_shaped (ns ms : List Int) : shaped (.tuple [.list (ns.map PyData.int), .list (ms.map PyData.int)]) = true := by
  have a1 := W.depthAll_ints ns
  have a2 := W.depthAll_ints ms
  have c1 := canLayAll0_ints ns
  have c2 := canLayAll0_ints ms
  show (PyData.canLay0 _ && decide (PyData.depth _ ≤ 64)) = true
  rw [Bool.and_eq_true]
  refine ⟨by simp only [PyData.canLay0, PyData.canLayAll0, c1, c2, Bool.and_self], decide_eq_true ?_⟩
  simp only [PyData.depth, PyData.depthAll]
  omega
theorem ne_two {t t' a b a' b' : Addr} {va vb va' vb' : List Value} {na nb na' nb' : Nat} {ns ms : List Int} (e : s.heap.get? t = some (tup2 a b)) (e' : s.heap.get? t' = some (tup2 a' b')) (ea : s.heap.get? a = some (listOf va.toArray na)) (eb : s.heap.get? b = some (listOf vb.toArray nb))
    (ea' : s.heap.get? a' = some (listOf va'.toArray na')) (eb' : s.heap.get? b' = some (listOf vb'.toArray nb')) (ia : IntsAre va ns) (ib : IntsAre vb ms) (ia' : IntsAre va' ns) (ib' : IntsAre vb' ms) (hu : A.units + 64 < cLine) (h : Q (.bool false) s) :
    wpAny (model prog w) A (compareOp .NotEq (.ref t) (.ref t')) Q E s := by
  refine ne_dataH_same (tup2_data e (ints_data ea ia) (ints_data eb ib)) (tup2_data e' (ints_data ea' ia') (ints_data eb' ib')) (two_shaped ns ms) (two_shaped ns ms) hu ?_ ?_
  · simp only [noMix, noMixAll, noMix_ints, Bool.and_self]
  · simp only [PySem.Spec.same, PySem.Spec.sameAll, same_ints, decide_true, Bool.and_self, Bool.not_true]
    exact h
theorem ne_one {a a' : Addr} {va va' : List Value} {na na' : Nat} {ns : List Int} (ea : s.heap.get? a = some (listOf va.toArray na)) (ea' : s.heap.get? a' = some (listOf va'.toArray na')) (ia : IntsAre va ns) (ia' : IntsAre va' ns) (hu : A.units + 64 < cLine) (h : Q (.bool false) s) :
    wpAny (model prog w) A (compareOp .NotEq (.ref a) (.ref a')) Q E s :=
  ne_intsK ⟨_, ea, rfl, na, rfl⟩ ia ⟨_, ea', rfl, na', rfl⟩ ia' hu (by rw [decide_eq_true rfl]; exact h)
end
theorem PileAt.live {g h : Heap} {L : Addr} {m : Str → Option Value} {pre os : List (Addr × Obj)} {a : Addr} {us : List Value} {n : Nat} (F : Fr g L h m) (N : News g L h (pre ++ os)) (hP : g.get? a = some (listOf (List.toArray us) n) ∨ (a, listOf (List.toArray us) n) ∈ os) : h.get? a = some (listOf us.toArray n) :=
  hP.elim (F.keep _ _) fun q => News.get N (List.mem_append_right _ q)
theorem bool_at {bs : List Bool} {i : Nat} {x : Value} (h : (bs.map Value.bool)[i]? = some x) : x = .bool (bs.getD i false) := by
  rw [List.getElem?_map] at h
  cases e : bs[i]? with
  | none => rw [e] at h; cases h
  | some b => rw [e] at h; cases h; rw [List.getD_eq_getElem?_getD, e]; rfl
theorem zip_bools {f : Bool → Bool → Bool} {bs cs : List Bool} (h : cs.length = bs.length) : (List.range (min (bs.map Value.bool).length (cs.map Value.bool).length)).map (fun i => Value.bool (f (bs.getD i false) (cs.getD i false))) = (zipB f bs cs).map Value.bool := by
  rw [List.length_map, List.length_map, h, Nat.min_self]
  unfold zipB
  rw [List.map_map]; rfl
/-- a new object of the ledger, where the base was turned -/
theorem led_addT {g g' h h' : Heap} {L a : Addr} {o : Obj} {m : Str → Option Value} {pre pre' os : List (Addr × Obj)} {fs : List Addr} (F : Fr g L h m) (N : News g L h (pre' ++ os)) (KT : KtsTurn fs g g') (N' : News g' L h' (pre ++ os)) (hp : pre'.map Prod.fst = pre.map Prod.fst) (nd : Nd (pre ++ os)) (fr : h.get? a = none) (e : h'.get? a = some o) :
    News g' L h' (pre ++ (a, o) :: os) ∧ Nd (pre ++ (a, o) :: os) := by
  have aL : a ≠ L := fun q => by
    obtain ⟨oL, es, ep, hL, _⟩ := F.ns
    rw [q, hL] at fr; cases fr
  have ga : g'.get? a = none := KT.none_ _ (by
    cases q : g.get? a with
    | none => rfl
    | some z => have := F.keep _ _ q; rw [fr] at this; cases this)
  have fa := fresh_ne N fr
  refine ⟨fun p hq => ?_, ?_⟩
  · rcases List.mem_append.mp hq with hq | hq
    · exact N' p (List.mem_append_left _ hq)
    · rcases List.mem_cons.mp hq with rfl | hq
      · exact ⟨e, aL, ga⟩
      · exact N' p (List.mem_append_right _ hq)
  · unfold Nd at nd ⊢
    rw [List.map_append, hp] at fa
    rw [List.map_append] at nd
    rw [List.map_append, List.map_cons]
    rw [List.nodup_append] at nd ⊢
    rw [List.mem_append, not_or] at fa
    refine ⟨nd.1, List.nodup_cons.mpr ⟨fa.2, nd.2.1⟩, fun u hu v hv => ?_⟩
    rcases List.mem_cons.mp hv with rfl | hv
    · exact fun z => fa.1 (z ▸ hu)
    · exact nd.2.2 u hu v hv
theorem less_sub {bs cs : List Bool} : ∀ x ∈ pints (zipB (fun p q => deedOp 3 p q) bs cs), x ∈ pints bs := fun x hx => by
  obtain ⟨i, a, b, rfl⟩ := zip_mem.mp hx
  rw [at_mem a]
  simp only [deedOp] at b
  simp only [show ¬ ((3 : Int) = 1) by decide, show ¬ ((3 : Int) = 2) by decide, if_false, if_true, Bool.and_eq_true] at b
  exact b.1
section
variable {prog : Program} {w : World} {A : Around} {E : Value → Shared → Prop} {s : Shared} {env : Env}
theorem need_zip0 {scope : Scope} {cl : List (Str × Addr)} {a b : Str} {xs ys : List Value} {f : Nat → Value} {elt : Expr} {ex : List Addr} {Ex : Addr → Heap → Prop} {done : Addr → Shared → Prop} {l1 l2 : Addr}
    (hh : A.handled = none) (h1 : s.heap.IsList l1 xs.toArray) (h2 : s.heap.IsList l2 ys.toArray) (hz : xs.length ≤ 100000) (hex : ∀ b ∈ ex, ∃ o, s.heap.get? b = some o)
    (helt : ∀ C i x y h tk E' m', xs[i]? = some x → ys[i]? = some y → Fr s.heap C h m' → m' a = some x → m' b = some y →
      wpAny (model prog w) A (eval elt (compEnvC scope cl C env)) (fun v s₃ => v = f i ∧ Keeps { s with heap := h, toks := tk } s₃) E' { s with heap := h, toks := tk })
    (hdone : ∀ h' tk D nD, s.heap.get? D = none → h'.get? D = some (listOf ((List.range (min xs.length ys.length)).map f).toArray nD) → Kp ex s.heap h' → Ex D h' → done D { s with heap := h', toks := tk }) :
    wpAny (model prog w) A (PySem.call (.type "zip") [.ref l1, .ref l2]) (fun xv s₁ => wpAny (model prog w) A (pyIter xv) (fun it s₂ => ZipNeed prog w A env scope cl a b xs ys f elt ex Ex done it s₂) E s₁) E s :=
  wpAny_mono (need_zip (P := fun _ => True) hh h1 h2 hz hex (fun _ _ => trivial) helt hdone) (fun _ _ h => wpAny_mono h (fun _ _ k => k.2) fun _ _ e => e) fun _ _ e => e
theorem tup2_first {a x y : Addr} {u : Tok} {value slice : Expr} {Q : Value → Shared → Prop} (ht : s.heap.get? a = some (tup2 x y)) (h : Q (.ref x) s)
    (hsub : subscripted slice false (.ref a) (.int 0 u) = operate [.ref a, .int 0 u] (getItem (.ref a) (.int 0 u)) := by with_unfolding_all rfl) :
    wpAny (model prog w) A (subscriptTail value slice (.ref a) (.int 0 u)) Q E s := by
  have hT : IsTup s.heap a #[.ref x, .ref y] := ⟨_, ht, rfl, _, rfl⟩
  exact tail_any hT.typeIs slot_tuple_getitem.lookup (getItem_tuple (j := 0) hT (by decide) (by decide) rfl rfl h) hsub
end
theorem ne_len {prog : Program} {w : World} {A : Around} {E : Value → Shared → Prop} {s : Shared} {a b : Addr} {va vb : List Value} {na nb : Nat} {Q : Value → Shared → Prop} (ea : s.heap.get? a = some (listOf va.toArray na)) (eb : s.heap.get? b = some (listOf vb.toArray nb)) (hl : va.length ≠ vb.length) (hu : A.units + 64 < cLine) (h : Q (.bool true) s) :
    wpAny (model prog w) A (compareOp .NotEq (.ref a) (.ref b)) Q E s :=
  RcNeAt.lists_lengths ⟨_, ea, rfl, na, rfl⟩ ⟨_, eb, rfl, nb, rfl⟩ (by simpa using hl) (by omega) prog w E Q h
theorem fr_some {g h : Heap} {L : Addr} {m : Str → Option Value} (F : Fr g L h m) : ∃ m', m' = m ∧ Fr g L h m' := ⟨m, rfl, F⟩
theorem two_last {α : Type} {l : List α} (h : 1 < l.length) : ∃ r a b, l = r ++ [a] ++ [b] := by
  rcases List.eq_nil_or_concat l with rfl | ⟨q, b, rfl⟩
  · simp at h
  · rcases List.eq_nil_or_concat q with rfl | ⟨r, a, rfl⟩
    · simp at h
    · exact ⟨r, a, b, by simp⟩
end
theorem off_A1 : True := by
  w_top off
  k_with_none
  trivial
-- A1
section
open PySem PySem.W PyProof.Rows PySem.Calls
theorem kw_A1_1 : True := by
  k_with_none
  k_with "loadName" => (k_here; k_dflt (refine' ld_any ?z_F ?z_L ?z_v ?_ ?z_a ?z_b; (case z_a => rfl); (case z_b => rfl); (case z_F => k_asm); (case z_L => rfl); (case z_v => first | assumption | rfl); k_whole))
  k_with "eval Name" => (k_here; k_dflt (first | (refine' nm_local ?z_F ?z_L ?z_v ?_ ?z_a ?z_b; (case z_a => rfl); (case z_b => rfl); (case z_F => k_asm); (case z_L => rfl); (case z_v => first | assumption | rfl); k_whole) | (refine' nm_cellN ?z_N ?z_c ?z_o ?z_d ?_ ?z_a ?z_b; (case z_a => rfl); (case z_b => rfl); (case z_N => k_asm); (case z_c => rfl); (case z_o => k_mem); (case z_d => assumption); k_whole) | (refine' nm_cell ?z_F ?z_c ?z_o ?z_d ?_ ?z_a ?z_b; (case z_a => rfl); (case z_b => rfl); (case z_F => k_asm); (case z_c => rfl); (case z_o => assumption); (case z_d => assumption); k_whole)))
  k_with "mytree" => ((first | (with_reducible show wpAny _ _ _ _ _ _) | (with_reducible show ite _ _ _)); (fail_if_success (with_reducible show wpAny _ _ (eval (PySem.Expr.ListComp _ _ _ _) _) _ _ _)); (fail_if_success (with_reducible show wpAny _ _ (exec (PySem.Stmt.Assign _ (PySem.Expr.ListComp _ _ _ _) _) _) _ _ _)); (fail_if_success (with_reducible show wpAny _ _ (PySem.newTuple _) _ _ _)); (fail_if_success (with_reducible show wpAny _ _ (PySem.storeName _ (PySem.Str.ofString "asked") _) _ _ _)); (fail_if_success (with_reducible show wpAny _ _ (PySem.storeName _ (PySem.Str.ofString "deed") _) _ _ _)); (fail_if_success (with_reducible show wpAny _ _ (PySem.storeName _ (PySem.Str.ofString "word") _) _ _ _)); (fail_if_success (with_reducible show wpAny _ _ (exec (PySem.Stmt.If _ _ _ _) _) _ _ _)); (fail_if_success (with_reducible show wpAny _ _ (PySem.call (PySem.Value.ref _) _) _ _ _)); (fail_if_success (with_reducible show wpAny _ _ (PySem.call (PySem.Value.builtin "list.append") _) _ _ _)); (fail_if_success (with_reducible show wpAny _ _ (PySem.call (PySem.Value.builtin "list.pop") _) _ _ _)); (fail_if_success (with_reducible show wpAny _ _ (PySem.call (PySem.Value.builtin "len") _) _ _ _)); (fail_if_success (with_reducible show wpAny _ _ (PySem.call (PySem.Value.type "zip") _) _ _ _)); (fail_if_success (with_reducible show wpAny _ _ (PySem.subscriptTail _ _ (PySem.Value.ref _) _) _ _ _)); (fail_if_success (with_reducible show wpAny _ _ (PySem.compareOp _ _ (PySem.Value.ref _)) _ _ _)); (fail_if_success (with_reducible show wpAny _ _ (exec (PySem.Stmt.For _ _ _ _ _) _) _ _ _)))
  k_with "mygo" => (repeat' (first | (k_unfold; (try dsimp only)) | (walk_at "mytree"; walk1) | (dsimp only; walk_at "mytree"; walk1) | fail "no step"))
  trivial
/-- the way out by an exception, out of sight: the walk's terms stay small -/
theorem wp_hideE {α : Type} {M : Model} {A : Around} {t : Sem α} {Q : α → Shared → Prop} {E : Value → Shared → Prop} {s : Shared} (k : ∀ (E' : Value → Shared → Prop), (∀ e s', E e s' → E' e s') → wpAny M A t Q E' s) : wpAny M A t Q E s :=
  k E (fun _ _ x => x)
/-- what stands at a turn of the answers' loop -/
inductive AnsI (w : World) (s : Shared) (hb g' : Heap) (outer : List Env) (C : AnsC) (ln : Addr) (zs : List Int) (n : Nat) (s' : Shared) : Prop
  | mk (d : AnsD) (j : Nat) (_ : s' = ⟨d.h, s.gens, s.drawn, d.tk, s.os⟩) (_ : AnsOk w hb g' outer C j d) (_ : d.oi.cls = .type "list_iterator") (_ : d.oi.data = .fields #[.ref ln, .int j 0]) (_ : j ≤ zs.length) (_ : n = zs.length - j)
/-- … behind its first statements -/
inductive AnsMD (w : World) (s : Shared) (hb g' : Heap) (outer : List Env) (C : AnsC) (ln : Addr) (deed : Int) (j : Nat) (s' : Shared) : Prop
  | mk (d : AnsD) (_ : s' = ⟨d.h, s.gens, s.drawn, d.tk, s.os⟩) (_ : AnsOk w hb g' outer C j d) (_ : d.oi.cls = .type "list_iterator") (_ : d.oi.data = .fields #[.ref ln, .int j 0]) (td : Tok) (_ : d.oD.data = .cell (some (.int deed td)))
inductive AnsM (w : World) (s : Shared) (hb g' : Heap) (outer : List Env) (C : AnsC) (ln : Addr) (j : Nat) (s' : Shared) : Prop
  | mk (d : AnsD) (_ : s' = ⟨d.h, s.gens, s.drawn, d.tk, s.os⟩) (_ : AnsOk w hb g' outer C j d) (_ : d.oi.cls = .type "list_iterator") (_ : d.oi.data = .fields #[.ref ln, .int j 0])
section
variable {w : World} {A : Around} {s : Shared} {hb : Heap} {loose : List Str} {mean : ExcName → Option Value} {mg mb : Str → Option Value} {R : Result → Shared → Prop}
variable {outer : List Env}
theorem answers_spec (X : (hd.heap_1 w.params).In hb) (T : Top topProg loose mean mg mb hb) (S : hb.StaysIn s.heap) (hroom : A.depth < 700) (hh : A.handled = none) (hun : A.units ≤ 100) (hl1 : Str.ofString "IndexError" ∉ loose) (hl2 : Str.ofString "IndexError" ∉ (clssOf topProg loose).map (·.name)) (K : Stk A hb s.heap outer)
    {ln lb lr nt : Addr} {vs : List Value} {c : Nat} {rvs : List Value} {rc : Nat} {rws : List (Str × Str)} {c1 c2 : BkC} {zs : List Int} {ns₀ : Array Value} {cn₀ : Nat}
    (HB : ∀ g : Heap, (∀ a o, a ≠ nt → s.heap.get? a = some o → g.get? a = some o) → hb.StaysIn g → AnsB w hb g outer ln lb lr nt vs c rvs rc rws c1 c2) (hvs : IntsAre vs zs) (hz : zs.length ≤ 20) (hrz : rws.length ≤ 20)
    (hn : s.heap.get? nt = some (listOf ns₀ cn₀)) (hb0 : hb.get? nt = none) (hnz : ns₀.size ≤ 50)
    (k : ∀ h' tk ns cn, (∀ a o, a ≠ nt → s.heap.get? a = some o → (a ∉ frs outer → h'.get? a = some o) ∧ ∃ sl, h'.get? a = some { o with slots := sl }) → h'.get? nt = some (listOf ns cn) → R (.ok (.ret (.bool true))) { s with heap := h', toks := tk }) :
    codeAny (model Challenge.rw_mq0106_01.row.prog w) A (.call (.ref 265) ⟨[.ref ln, .ref lb, .ref lr, .ref nt], []⟩) R s := by
  revert X; k_fill; intro X
  refine' enterC (binds := [(PySem.Str.ofString "numbers", Value.ref ln), (PySem.Str.ofString "books", Value.ref lb), (PySem.Str.ofString "rows", Value.ref lr), (PySem.Str.ofString "notes", Value.ref nt)]) X T S [(nt, listOf ns₀ cn₀)] (by intro q hq; rw [List.mem_singleton.mp hq]; exact ⟨hn, hb0⟩) ?k6 ?k7 ?k8 ?k9 ?kB ?kD ?_ ?c3 ?c4 ?c5
  case k6 => k_is
  case k7 => k_is
  case k8 => k_room
  case k9 => exact BindsTo.of_eq rfl
  case kB => exact rfl
  case kD => decide +kernel
  case c3 => exact rfl
  case c4 => exact rfl
  case c5 => exact rfl
  intro g' L' h' tk' cells' F' N' Y' X' T' S' hg' hL' hl'
  k_cells Y'
  (try simp only [List.cons_append, List.nil_append] at N')
  (try dsimp only)
  show wpAny _ _ _ _ _ _
  k_fold
  have XK : ∀ g, hb.StaysIn g → (hd.heap_1 w.params).In g := fun g S => X.keeps S
  have TK : ∀ g, hb.StaysIn g → Top topProg loose mean mg mb g := fun g S => T.keeps S
  have B₀ := HB g' (fun a o n e => hg' a o (by simpa using n) e) S'
  clear S
  rename_i oW₀ oD₀ oA₀ dW₀ dD₀ dA₀
  walk_at "mygo"
  rename News g' L' _ _ => N1
  refine len_in N1 (l := nt) (xs := ns₀) (n := cn₀) (by k_mem) (by omega) fun t₁ tk₁ => ?_
  walk_at "mygo"
  refine wpAny_For ?_
  walk_at "mygo"
  rename Fr g' L' _ _ => F1
  rename News g' L' _ _ => N1
  rename_i lp _ l1 _ _ lq _ l2 _ _ h2
  refine wpAny_pyIter_list (l := ln) (items := vs.toArray) (list_base F1 B₀.num) ?_
  have F2 := Fr.pushS F1 { cls := .type "list_iterator", data := .fields #[.ref ln, .int 0 0] }
  have N2 := News.push F1 N1 { cls := .type "list_iterator", data := .fields #[.ref ln, .int 0 0] }
  have q1 : @LT.lt Nat _ lq h2.objs.size := Heap.lt_size (N1 _ (.head _)).1
  have hnL : @LT.lt Nat _ nt L' := hl' _ (.head _)
  have nd : Nd (AnsC.led ⟨ln, lb, lr, nt, L', h2.objs.size, lp, lq, vs, c, rvs, rc, rws, c1, c2⟩ ⟨g', h2, 0, fun _ => none, { cls := .type "list_iterator", data := .fields #[.ref ln, .int 0 0] }, oA₀, oD₀, oW₀, [], [], 0, 0, ns₀, cn₀, [], []⟩) := by
    unfold Nd
    simp only [AnsC.led, ansLed, List.map_cons, List.map_nil, List.nodup_cons, List.mem_cons, List.not_mem_nil, or_false, not_or, not_false_iff, List.nodup_nil, and_true]
    repeat' apply And.intro
    all_goals first | exact Nat.ne_of_gt (by omega) | exact Nat.ne_of_lt (by omega) | trivial
  obtain ⟨Inv, mkI, ofI⟩ : ∃ Inv : Nat → Shared → Prop, (∀ n s', AnsI w s hb g' outer ⟨ln, lb, lr, nt, L', h2.objs.size, lp, lq, vs, c, rvs, rc, rws, c1, c2⟩ ln zs n s' → Inv n s') ∧ ∀ n s', Inv n s' → AnsI w s hb g' outer ⟨ln, lb, lr, nt, L', h2.objs.size, lp, lq, vs, c, rvs, rc, rws, c1, c2⟩ ln zs n s' := ⟨_, fun _ _ x => x, fun _ _ x => x⟩
  refine codeAny_forLoop Inv ?turn zs.length ?init
  case init =>
    exact mkI _ _ ⟨⟨g', _, tk, _, { cls := .type "list_iterator", data := .fields #[.ref ln, .int 0 0] }, oA₀, oD₀, oW₀, [], [], 0, 0, ns₀, cn₀, [], []⟩, 0, rfl, ⟨B₀, .refl, F2, rfl, rfl, rfl, rfl, rfl, ⟨_, rfl⟩, fun p hp => N2 p (by simp only [AnsC.led, ansLed, List.mem_cons, List.not_mem_nil, or_false] at hp ⊢; rcases hp with h | h | h | h | h | h | h <;> simp [h]), nd, ⟨_, dA₀⟩, ⟨_, dD₀⟩, ⟨_, dW₀⟩, .nil, .nil, (by intro _ h; cases h), Nat.zero_le _, by simpa using hnz⟩, rfl, rfl, Nat.zero_le _, rfl⟩
  case turn =>
    clear F1 N1 F2 N2 nd X' T'
    intro n s₁ hI
    obtain ⟨⟨g, h, tk, m, oi, oA, oD, oW, pvs, qvs, cp, cq, ns, cn, os, bss⟩, j, rfl, K₁, hoc, hod, hj, hn'⟩ := ofI _ _ hI
    obtain ⟨B, KT, F, mP, mQ, mB, mR, mN, ⟨tR, mT⟩, N, nd, cA, cD, cW, P, Q, zz, zp, zn⟩ := K₁
    dsimp only [AnsC.led, ansLed] at B KT F mP mQ mB mR mN mT N nd cA cD cW P Q zz zp zn hoc hod ⊢
    have Xg := XK g B.S
    have Tg := TK g B.S
    by_cases cj : j < zs.length
    · obtain ⟨t, hx⟩ := ints_at hvs cj
      generalize hz' : zs.getD j 0 = z at hx
      have hx' : vs.toArray[j]? = some (.int z t) := by simpa using hx
      refine wpAny_pyNext_list_item (i := j) ⟨oi, News.get N (.head _), hoc, hod⟩ (list_base F B.num) hx' fun h3 hit3 hs3 => ?_
      obtain ⟨oi3, ho3, hoc3, hod3⟩ := hit3
      have F3 := Fr.put F N (.head _) (kp_same hs3)
      have N3 := News.put (pre := []) N nd (kp_same hs3) ho3
      have nd3 := Nd.swap (pre := []) (o' := oi3) nd
      clear F N nd
      dsimp only [List.nil_append] at F3 N3 nd3 ⊢
      walk_at "mygo"
      rename Fr g L' _ _ => F4
      rename News g L' _ _ => N4
      dsimp only
      generalize hask : (z.fdiv 9).fmod 9 = asked
      have ra : 0 ≤ asked ∧ asked < 9 := by rw [← hask, fm9]; omega
      clear hask
      refine cell_store (pre := [_, _, _, _, _, _]) F4 N4 nd3 cA rfl fun h5 oA5 F5 N5 dA5 => ?_
      clear F4 N4
      dsimp only [List.cons_append, List.nil_append] at F5 N5 ⊢
      walk_at "mygo"
      rename Fr g L' _ _ => F6
      rename News g L' _ _ => N6
      dsimp only
      generalize (z.fdiv 81).fmod 5 = deed
      refine cell_store (pre := [_, _, _, _, _]) F6 N6 nd3 cD rfl fun h7 oD7 F7 N7 dD7 => ?_
      clear F6 N6
      dsimp only [List.cons_append, List.nil_append] at F7 N7 ⊢
      walk_at "mygo"
      obtain ⟨Mid1, mk1, of1⟩ : ∃ P : Shared → Prop, (∀ s', AnsMD w s hb g' outer ⟨ln, lb, lr, nt, L', h2.objs.size, lp, lq, vs, c, rvs, rc, rws, c1, c2⟩ ln deed (j + 1) s' → P s') ∧ ∀ s', P s' → AnsMD w s hb g' outer ⟨ln, lb, lr, nt, L', h2.objs.size, lp, lq, vs, c, rvs, rc, rws, c1, c2⟩ ln deed (j + 1) s' := ⟨_, fun _ x => x, fun _ x => x⟩
      refine exec_mid Mid1 ?part1 ?rest1
      case part1 =>
        refine wp_hideE fun E1 _ => ?_
        refine wpAny_If ?_
        walk_at "mygo"
        rotate_left
        · exact ⟨rfl, mk1 _ ⟨⟨g, h7, _, _, oi3, oA5, oD7, oW, pvs, qvs, cp, cq, ns, cn, os, bss⟩, rfl, ⟨B, KT, F7, mP, mQ, mB, mR, mN, ⟨tR, mT⟩, N7, nd3, ⟨_, dA5⟩, ⟨_, dD7⟩, cW, P, Q, zz, by dsimp only; omega, by dsimp only; omega⟩, hoc3, hod3, _, dD7⟩⟩
        refine wpAny_call (words_spec Xg Tg (by exact F7.keep) (by k_room) fun h8 tk8 a8 vs8 kp8 fr8 ea8 hs8 => ?_)
        have F8 := fr_kp0 F7 kp8
        have N8 := news_kp0 N7 kp8
        have N8a := news_new F7 N8 fr8 ea8
        clear F7 N7
        walk_at "mygo"
        refine item_words N8a (.head _) hs8 ra.1 (by omega) fun t9 => ?_
        clear N8a
        walk_at "mygo"
        refine cell_store (pre := [_, _, _, _]) F8 N8 nd3 cW rfl fun h9 oW9 F9 N9 dW9 => ?_
        clear F8 N8
        dsimp only [List.cons_append, List.nil_append] at F9 N9 ⊢
        walk_at "mygo"
        obtain ⟨r01, cS, BS, hxS⟩ := askB B ra.1 (by omega)
        refine item_base (vs := [Value.ref c1.b, Value.ref c2.b]) F9 B.bks (by omega) (by omega) hxS ?_
        walk_at "mygo"
        dsimp only
        have hnt9 := News.get N9 (.tail _ (.tail _ (.tail _ (.head _))))
        refine bk_ask X T B.S (by k_room) (by first | exact hh | rfl) BS F9.keep hnt9 hb0 (by omega) (fun h10 tk10 a10 us10 n10 ns10 cn10 kp10 en10 ea10 hu10 hs10 hor10 => ?_)
        have F10 := Fr.put F9 N9 (.tail _ (.tail _ (.tail _ (.head _)))) kp10
        have N10 := News.put (pre := [_, _, _]) N9 nd3 kp10 en10
        obtain ⟨os10, N11, nd11, hP11, sub11⟩ : ∃ os10, News g L' h10 ([(h2.objs.size, oi3), (lp, listOf pvs.toArray cp), (lq, listOf qvs.toArray cq), (nt, listOf ns10 cn10), (L' + 1 + 1 + 1, oW9), (L' + 1 + 1, oD7), (L' + 1, oA5)] ++ os10) ∧ Nd ([(h2.objs.size, oi3), (lp, listOf pvs.toArray cp), (lq, listOf qvs.toArray cq), (nt, listOf ns10 cn10), (L' + 1 + 1 + 1, oW9), (L' + 1 + 1, oD7), (L' + 1, oA5)] ++ os10) ∧ (g.get? a10 = some (listOf us10.toArray n10) ∨ (a10, listOf us10.toArray n10) ∈ os10) ∧ ∀ p ∈ os, p ∈ os10 := by
          rcases hor10 with hor10 | hor10
          · exact ⟨os, N10, nd3, .inl hor10, fun p hp => hp⟩
          · have := led_add (pre' := [_, _, _, _, _, _, _]) (pre := [_, _, _, _, _, _, _]) F9 N9 N10 rfl nd3 hor10 ea10
            exact ⟨_, this.1, this.2, .inr (.head _), fun p hp => .tail _ hp⟩
        clear F9 N9 N10
        dsimp only [List.cons_append, List.nil_append] at N11 nd11 ⊢
        walk_at "mygo"
        have zpl : pvs.length = bss.length := P.len
        have zql : qvs.length = bss.length := Q.len
        refine append_at (hsz := by rw [List.size_toArray, sizeLine_eq]; omega) (News.get N11 (.tail _ (.head _))) (fun h12 hs12 e12 => ?_)
        have F12 := Fr.put F10 N11 (.tail _ (.head _)) (kp_same hs12)
        have N12 := News.put (pre := [_]) N11 nd11 (kp_same hs12) e12
        clear F10 N11
        rw [List.push_toArray] at N12
        dsimp only [List.cons_append, List.nil_append] at N12 ⊢
        walk_at "mygo"
        have eA12 : h12.get? (L' + 1) = some oA5 := News.get N12 (.tail _ (.tail _ (.tail _ (.tail _ (.tail _ (.tail _ (.head _)))))))
        have eW12 : h12.get? (L' + 1 + 1 + 1) = some oW9 := News.get N12 (.tail _ (.tail _ (.tail _ (.tail _ (.head _)))))
        refine' comp_eval (cl := [(Str.ofString "word", L' + 1 + 1 + 1), (Str.ofString "asked", L' + 1)]) (fun _ => true) (fun v y os => y = .bool (rowTest g (asked.fdiv 4) (wordAt asked) v) ∧ os = []) ?f1 ?f2 ?f3 ?f4 ?f5 ?f6
        case f1 => exact rfl
        case f2 => decide
        case f3 => exact rfl
        case f4 => decide
        case f5 => exact rfl
        walk_at "mygo"
        refine need_list (by first | exact hh | rfl) (l := lr) (vs := rvs) ⟨_, F12.keep _ _ B.row, rfl, rc, rfl⟩ (by rw [B.rows.len]; omega) (fun b hb => nomatch hb) ?t2 ?e2 ?d2
        case t2 =>
          intro C2 i2 v2 h4 tk4 E4 m4 hi2 F4 hm4
          exact wpAny_pure ⟨rfl, _, _, rfl, fun _ _ e => e⟩
        case e2 =>
          intro C2 i2 v2 h4 tk4 E4 m4 hi2 hp2 F4 hm4
          dsimp only at F4 ⊢
          obtain ⟨a, tx, ty, ea, ha⟩ := B.rows.get (i := i2) (by have := (List.getElem?_eq_some_iff.mp hi2).1; rw [B.rows.len] at this; exact this)
          rw [hi2] at ea; cases ea
          generalize hr : rws.getD i2 ("", "") = r at ha
          obtain ⟨p, q⟩ := r
          rw [rowTest_at ha]
          walk_at "mygo"
          refine tup_item (F4.keep _ _ (F12.keep _ _ ha)) r01 fun t4 => ?_
          walk_at "mygo"
          exact ⟨⟨_, _, rfl, fun _ _ e => e⟩, [], ⟨rfl, rfl⟩, fun q hq => nomatch hq⟩
        case d2 =>
          intro h13 tk13 D13 ys13 os13 nD13 hD13 hD13' hG13 hos13 kp13 hE13
          dsimp only at hD13 kp13 ⊢
          obtain ⟨rfl, rfl⟩ := gl_fun (fun _ _ _ x => x) hG13
          rw [List.filter_eq_self.mpr (fun _ _ => rfl), rows_test B.rows] at hD13'
          have N13 := led_add (pre' := [_, _, _, _, _, _, _]) (pre := [_, _, _, _, _, _, _]) F12 N12 (news_kp0 N12 kp13) rfl nd11 hD13 hD13'
          have F13 := fr_kp0 F12 kp13
          obtain ⟨N13, nd13⟩ := N13
          clear F12 N12
          dsimp only [List.cons_append, List.nil_append] at N13 nd13 ⊢
          walk_at "mygo"
          refine append_at (hsz := by rw [List.size_toArray, sizeLine_eq]; omega) (News.get N13 (.tail _ (.tail _ (.head _)))) (fun h14 hs14 e14 => ?_)
          have F14 := Fr.put F13 N13 (.tail _ (.tail _ (.head _))) (kp_same hs14)
          have N14 := News.put (pre := [_, _]) N13 nd13 (kp_same hs14) e14
          clear F13 N13
          rw [List.push_toArray] at N14
          dsimp only [List.cons_append, List.nil_append] at N14 ⊢
          walk_at "mygo"
          refine last_at (vs := qvs) (v := .ref D13) (n := cq + 1) (News.get N14 (.tail _ (.tail _ (.head _)))) ?_
          walk_at "mygo"
          refine in_bools (News.get N14 (.tail _ (.tail _ (.tail _ (.tail _ (.tail _ (.tail _ (.tail _ (.head _)))))))) ) (by show A.units + 3 + 64 < cLine; unfold cLine; omega) ?_
          generalize hbs : (rws.map fun r => decide (sideOf (asked.fdiv 4) r = wordAt asked)) = bsx at *
          generalize hba : bsx.any id = bx at *
          walk_at "mygo"
          all_goals dsimp only
          · rename Fr g L' _ _ => F15
            rename News g L' _ _ => N15
            have hbs' : bsOf rws (asked.fdiv 4) (wordAt asked) = bsx := hbs
            rw [hbs'] at hu10 hs10
            have eT : (ns.size : Int) + 0 = ns10.size := by
              rw [hs10]
              simp_all
            rw [eT] at F15
            refine ⟨rfl, mk1 _ ⟨⟨g, _, _, _, oi3, oA5, oD7, oW9, pvs ++ [.ref a10], qvs ++ [.ref D13], cp + 1, cq + 1, ns10, cn10, _, bss ++ [bsx]⟩, rfl, ⟨B, KT, F15, mP, mQ, mB, mR, mN, ⟨_, rfl⟩, N15, nd13, ⟨_, dA5⟩, ⟨_, dD7⟩, ⟨_, dW9⟩,
              (P.mono (fun _ _ _ e => e) fun p hp => .tail _ (sub11 p hp)).snoc (hP11.imp id fun hp => .tail _ hp) hu10, (Q.mono fun p hp => .tail _ (sub11 p hp)).snoc (.head _), fun bs hb => ?_, by dsimp only; rw [List.length_append, List.length_singleton]; omega, by dsimp only; omega⟩, hoc3, hod3, _, dD7⟩⟩
            rcases List.mem_append.mp hb with hb | hb
            · exact zz bs hb
            · rw [List.mem_singleton.mp hb, ← hbs, List.length_map]
          · rename Fr g L' _ _ => F15
            rename News g L' _ _ => N15
            have hbs' : bsOf rws (asked.fdiv 4) (wordAt asked) = bsx := hbs
            rw [hbs'] at hu10 hs10
            have eT : (ns.size : Int) + 1 = ns10.size := by
              rw [hs10]
              simp_all
            rw [eT] at F15
            refine ⟨rfl, mk1 _ ⟨⟨g, _, _, _, oi3, oA5, oD7, oW9, pvs ++ [.ref a10], qvs ++ [.ref D13], cp + 1, cq + 1, ns10, cn10, _, bss ++ [bsx]⟩, rfl, ⟨B, KT, F15, mP, mQ, mB, mR, mN, ⟨_, rfl⟩, N15, nd13, ⟨_, dA5⟩, ⟨_, dD7⟩, ⟨_, dW9⟩,
              (P.mono (fun _ _ _ e => e) fun p hp => .tail _ (sub11 p hp)).snoc (hP11.imp id fun hp => .tail _ hp) hu10, (Q.mono fun p hp => .tail _ (sub11 p hp)).snoc (.head _), fun bs hb => ?_, by dsimp only; rw [List.length_append, List.length_singleton]; omega, by dsimp only; omega⟩, hoc3, hod3, _, dD7⟩⟩
            rcases List.mem_append.mp hb with hb | hb
            · exact zz bs hb
            · rw [List.mem_singleton.mp hb, ← hbs, List.length_map]
      case rest1 =>
        intro s' hI2
        obtain ⟨⟨g, h, tk, m, oi, oA, oD, oW, pvs, qvs, cp, cq, ns, cn, os, bss⟩, rfl, K₂, hoc2, hod2, td, dD⟩ := of1 _ hI2
        obtain ⟨B, KT, F, mP, mQ, mB, mR, mN, ⟨tR, mT⟩, N, nd, cA, cD, cW, P, Q, zz, zp, zn⟩ := K₂
        dsimp only [AnsC.led, ansLed] at B KT F mP mQ mB mR mN mT N nd cA cD cW P Q zz zp zn hoc2 hod2 dD ⊢
        clear F7 N7
        have Xg := XK g B.S
        have Tg := TK g B.S
        have zpl : pvs.length = bss.length := P.len
        have zql : qvs.length = bss.length := Q.len
        walk_at "mygo"
        obtain ⟨Mid2, mk2, of2⟩ : ∃ P : Shared → Prop, (∀ s', AnsM w s hb g' outer ⟨ln, lb, lr, nt, L', h2.objs.size, lp, lq, vs, c, rvs, rc, rws, c1, c2⟩ ln (j + 1) s' → P s') ∧ ∀ s', P s' → AnsM w s hb g' outer ⟨ln, lb, lr, nt, L', h2.objs.size, lp, lq, vs, c, rvs, rc, rws, c1, c2⟩ ln (j + 1) s' := ⟨_, fun _ x => x, fun _ x => x⟩
        refine exec_mid Mid2 ?part2 ?rest2
        case part2 =>
          refine wp_hideE fun E2 _ => ?_
          refine wpAny_If ?_
          walk_at "mygo"
          rotate_left
          · exact ⟨rfl, mk2 _ ⟨⟨g, h, _, _, oi, oA, oD, oW, pvs, qvs, cp, cq, ns, cn, os, bss⟩, rfl, ⟨B, KT, F, mP, mQ, mB, mR, mN, ⟨tR, mT⟩, N, nd, cA, cD, cW, P, Q, zz, zp, zn⟩, hoc2, hod2⟩⟩
          refine len_in N (l := lp) (xs := pvs.toArray) (n := cp) (.tail _ (.head _)) (by rw [List.size_toArray]; omega) fun t₁ tk₁ => ?_
          walk_at "mygo"
          rotate_left
          · exact ⟨rfl, mk2 _ ⟨⟨g, h, _, _, oi, oA, oD, oW, pvs, qvs, cp, cq, ns, cn, os, bss⟩, rfl, ⟨B, KT, F, mP, mQ, mB, mR, mN, ⟨tR, mT⟩, N, nd, cA, cD, cW, P, Q, zz, zp, zn⟩, hoc2, hod2⟩⟩
          rename (1 : Int) < _ => hlen
          obtain ⟨bs0, below, above, rfl⟩ := two_last (l := bss) (by rw [List.size_toArray] at hlen; omega)
          obtain ⟨pv1, au, usu, nu, rfl, P1, hau, iu⟩ := P.split
          obtain ⟨pv0, al, usl, nl, rfl, P0, hal, il⟩ := P1.split
          obtain ⟨qv1, qu, mu, rfl, Q1, hqu⟩ := Q.split
          obtain ⟨qv0, ql, ml, rfl, Q0, hql⟩ := Q1.split
          have za : above.length = rws.length := zz _ (by simp)
          have zb : below.length = rws.length := zz _ (by simp)
          simp only [List.length_append, List.length_singleton] at zpl zql zp
          dsimp only
          walk_at "mygo"
          refine pop_last (vs := pv0 ++ [.ref al]) (News.get N (.tail _ (.head _))) (by simp; omega) fun h1p hs1 e1 => ?_
          have F1 := Fr.put F N (.tail _ (.head _)) (kp_same hs1)
          have N1 := News.put (pre := [_]) N nd (kp_same hs1) e1
          clear F N
          dsimp only [List.cons_append, List.nil_append] at N1 ⊢
          walk_at "mygo"
          refine pop_last (vs := pv0) (News.get N1 (.tail _ (.head _))) (by omega) fun h2p hs2 e2 => ?_
          have F2 := Fr.put F1 N1 (.tail _ (.head _)) (kp_same hs2)
          have N2 := News.put (pre := [_]) N1 nd (kp_same hs2) e2
          clear F1 N1
          dsimp only [List.cons_append, List.nil_append] at N2 ⊢
          walk_at "mygo"
          refine wpAny_newTuple ?_
          have F3 := Fr.pushS F2 { cls := .type "tuple", data := .seq #[.ref au, .ref al] }
          have N3 := News.push F2 N2 { cls := .type "tuple", data := .seq #[.ref au, .ref al] }
          clear F2 N2
          dsimp only at F3 N3 ⊢
          walk_at "mygo"
          refine' unpack2 ?hh F3 N3 (.head _) ?hn ?_
          case hh => first | exact hh | rfl
          case hn => rfl
          intro h4 F4 N4
          have N4 := news_sub N4 fun q hq => List.mem_cons_of_mem _ hq
          clear F3 N3
          walk_at "mygo"
          rename Fr g L' _ _ => F5
          rename News g L' _ _ => N5
          refine pop_last (vs := qv0 ++ [.ref ql]) (News.get N5 (.tail _ (.tail _ (.head _)))) (by simp; omega) fun h6 hs6 e6 => ?_
          have F6 := Fr.put F5 N5 (.tail _ (.tail _ (.head _))) (kp_same hs6)
          have N6 := News.put (pre := [_, _]) N5 nd (kp_same hs6) e6
          clear F5 N5
          dsimp only [List.cons_append, List.nil_append] at N6 ⊢
          walk_at "mygo"
          refine pop_last (vs := qv0) (News.get N6 (.tail _ (.tail _ (.head _)))) (by omega) fun h7 hs7 e7 => ?_
          have F7 := Fr.put F6 N6 (.tail _ (.tail _ (.head _))) (kp_same hs7)
          have N7 := News.put (pre := [_, _]) N6 nd (kp_same hs7) e7
          clear F6 N6
          dsimp only [List.cons_append, List.nil_append] at N7 ⊢
          walk_at "mygo"
          refine wpAny_newTuple ?_
          have F8 := Fr.pushS F7 { cls := .type "tuple", data := .seq #[.ref qu, .ref ql] }
          have N8 := News.push F7 N7 { cls := .type "tuple", data := .seq #[.ref qu, .ref ql] }
          clear F7 N7
          dsimp only at F8 N8 ⊢
          walk_at "mygo"
          refine' unpack2 ?hh F8 N8 (.head _) ?hn ?_
          case hh => first | exact hh | rfl
          case hn => rfl
          intro h9 F9 N9
          have N9 := news_sub N9 fun q hq => List.mem_cons_of_mem _ hq
          clear F8 N8
          walk_at "mygo"
          rename Fr g L' _ _ => F10
          rename News g L' _ _ => N10
          have lal := PileAt.live (pre := [_, _, _, _, _, _, _]) F10 N10 hal
          have lau := PileAt.live (pre := [_, _, _, _, _, _, _]) F10 N10 hau
          have Gs : Stk A hb g outer := ⟨K.stack, B.O, K.clear⟩
          refine ⟨Xg.keeps F10.keep, ?_⟩
          refine sld_call (hb := hb) (L := L') X T B.S (by omega) hh hl1 hl2 Gs rfl (fun q => by cases q) F10 N10 lal lau il iu (pints_sorted below) (pints_sorted above) (Nat.le_trans (pints_len _) (by omega)) (Nat.le_trans (pints_len _) (by omega)) ?_
          intro g2 h11 tk11 tt M U um uu nm nu' KT2 F11 N11 ntt nU nM kl11 kg11 jm ju
          rw [told_less (by omega)] at jm
          rw [told_more (by omega)] at ju
          obtain ⟨N12, nd12⟩ := led_mid (x := [_, _, _]) (pre := [_, _, _, _, _, _, _]) N11 (nd_cons ntt (nd_cons nU (nd_cons nM nd)))
          have B2 := B.turn K.clear KT2
          have KTT := KT.trans KT2
          have Xg2 := XK g2 B2.S
          have Tg2 := TK g2 B2.S
          have lst2 : ∀ a xs n, g.get? a = some (listOf xs n) → g2.get? a = some (listOf xs n) := fun a xs n e => KT2.other _ _ e (B.O.notList e)
          clear F10 N10 N11 Xg Tg
          dsimp only [List.cons_append, List.nil_append] at N12 nd12 ⊢
          walk_at "mygo"
          rename Fr g2 L' _ _ => F13'
          rename News g2 L' _ _ => N13
          obtain ⟨m13, em13, F13⟩ := fr_some F13'
          clear F13'
          have mP13 : m13 "pile" = some (.ref lp) := by rw [em13]; exact mP
          have mQ13 : m13 "plain" = some (.ref lq) := by rw [em13]; exact mQ
          have mB13 : m13 "books" = some (.ref lb) := by rw [em13]; exact mB
          have mR13 : m13 "rows" = some (.ref lr) := by rw [em13]; exact mR
          have mN13 : m13 "notes" = some (.ref nt) := by rw [em13]; exact mN
          have mT13 : m13 "runs" = some (.int ns.size tR) := by rw [em13]; exact mT
          have mA13 : m13 "above" = some (.ref qu) := by rw [em13]; rfl
          have mb13 : m13 "below" = some (.ref ql) := by rw [em13]; rfl
          have mu13 : m13 "upper" = some (.ref au) := by rw [em13]; rfl
          have ml13 : m13 "lower" = some (.ref al) := by rw [em13]; rfl
          have mt13 : m13 "told" = some (.ref tt) := by rw [em13]; rfl
          clear em13
          have nd13 := nd12
          have lql14 := News.get N13 (List.mem_append_right [_, _, _, _, _, _, _, _, _, _] hql)
          have lqu14 := News.get N13 (List.mem_append_right [_, _, _, _, _, _, _, _, _, _] hqu)
          have X14 := Xg2.keeps F13.keep
          have T14 : Top topProg loose mean mg mb _ := Tg2.keeps F13.keep
          refine' zip_assign (m := m13) (cl := []) (xs := below.map Value.bool) (ys := above.map Value.bool) (fun i => Value.bool (deedOp 3 (below.getD i false) (above.getD i false))) ?s1_14 ?s2_14 ?s3_14 ?s4_14 ?s5_14 ?s6_14 ?s7_14 ?s8_14 ?s9_14 ?s10_14 ?sh_14 ?ss_14
          case s1_14 => exact rfl
          case s2_14 => exact rfl
          case s3_14 => decide
          case s4_14 => exact rfl
          case s5_14 => decide
          case s6_14 => exact rfl
          case s7_14 => exact rfl
          case s8_14 => decide
          case s9_14 => exact rfl
          case s10_14 => exact rfl
          case ss_14 => exact fun _ => rfl
          walk_at "mygo"
          refine' need_zip (P := fun h => h.Ns L' m13) ?hh_14 ⟨_, lql14, rfl, _, rfl⟩ ⟨_, lqu14, rfl, _, rfl⟩ (by rw [List.length_map]; omega) (fun b hb => by rw [List.mem_singleton.mp hb]; obtain ⟨o, _, _, e, _⟩ := F13.ns; exact ⟨o, e⟩) (fun h' k => F13.ns.at' fun o e => k _ o e) ?he_14 ?hdn_14
          case hh_14 => first | exact hh | rfl
          case he_14 =>
            intro C i x y h tk E' m' hx hy F ha1 ha2
            have ex := bool_at hx
            have ey := bool_at hy
            subst ex ey
            dsimp only at F ⊢
            walk_at "mygo"
            refine ⟨X14.keeps F.keep, ?_⟩
            refine wpAny_call (true_spec X T (fun a o e => F.keep _ _ (F13.keep _ _ (B2.S _ _ e))) (by k_room) fun h' tk' kp => ?_)
            exact ⟨rfl, _, _, rfl, fun a o e => kp a o (by simp) e⟩
          case hdn_14 =>
            intro h14 tk14 D14 nD14 hD14 hD14' kp14 hE14
            rw [zip_bools (f := fun p q => deedOp 3 p q) (by omega)] at hD14'
            dsimp only at hD14 kp14 hE14 ⊢
            have F14 := fr_map F13 kp14 hE14
            obtain ⟨N14, nd14⟩ := led_add (pre' := [_, _, _, _, _, _, _]) (pre := [_, _, _, _, _, _, _]) F13 N13 (news_map N13 kp14) rfl nd13 hD14 hD14'
            clear F13 N13
            dsimp only [List.cons_append, List.nil_append] at N14 nd14 ⊢
            obtain ⟨m14, em14, F14'⟩ := fr_some F14
            clear F14
            rename Fr _ _ _ m14 => F14
            have mP14 : m14 "pile" = some (.ref lp) := by rw [em14]; exact mP13
            have mQ14 : m14 "plain" = some (.ref lq) := by rw [em14]; exact mQ13
            have mB14 : m14 "books" = some (.ref lb) := by rw [em14]; exact mB13
            have mR14 : m14 "rows" = some (.ref lr) := by rw [em14]; exact mR13
            have mN14 : m14 "notes" = some (.ref nt) := by rw [em14]; exact mN13
            have mT14 : m14 "runs" = some (.int ns.size tR) := by rw [em14]; exact mT13
            have mA14 : m14 "above" = some (.ref qu) := by rw [em14]; exact mA13
            have mb14 : m14 "below" = some (.ref ql) := by rw [em14]; exact mb13
            have mu14 : m14 "upper" = some (.ref au) := by rw [em14]; exact mu13
            have ml14 : m14 "lower" = some (.ref al) := by rw [em14]; exact ml13
            have mt14 : m14 "told" = some (.ref tt) := by rw [em14]; exact mt13
            have mL14 : m14 "less" = some (.ref D14) := by rw [em14]; rfl
            clear em14 mP13 mQ13 mB13 mR13 mN13 mT13 mA13 mb13 mu13 ml13 mt13
            walk_at "mygo"
            have lql15 := News.get N14 (List.mem_append_right [_, _, _, _, _, _, _, _, _, _, _] hql)
            have lqu15 := News.get N14 (List.mem_append_right [_, _, _, _, _, _, _, _, _, _, _] hqu)
            have X15 := Xg2.keeps F14.keep
            have T15 : Top topProg loose mean mg mb _ := Tg2.keeps F14.keep
            refine' zip_assign (m := m14) (cl := []) (xs := below.map Value.bool) (ys := above.map Value.bool) (fun i => Value.bool (deedOp 3 (above.getD i false) (below.getD i false))) ?s1_15 ?s2_15 ?s3_15 ?s4_15 ?s5_15 ?s6_15 ?s7_15 ?s8_15 ?s9_15 ?s10_15 ?sh_15 ?ss_15
            case s1_15 => exact rfl
            case s2_15 => exact rfl
            case s3_15 => decide
            case s4_15 => exact rfl
            case s5_15 => decide
            case s6_15 => exact rfl
            case s7_15 => exact rfl
            case s8_15 => decide
            case s9_15 => exact rfl
            case s10_15 => exact rfl
            case ss_15 => exact fun _ => rfl
            walk_at "mygo"
            refine' need_zip (P := fun h => h.Ns L' m14) ?hh_15 ⟨_, lql15, rfl, _, rfl⟩ ⟨_, lqu15, rfl, _, rfl⟩ (by rw [List.length_map]; omega) (fun b hb => by rw [List.mem_singleton.mp hb]; obtain ⟨o, _, _, e, _⟩ := F14.ns; exact ⟨o, e⟩) (fun h' k => F14.ns.at' fun o e => k _ o e) ?he_15 ?hdn_15
            case hh_15 => first | exact hh | rfl
            case he_15 =>
              intro C i x y h tk E' m' hx hy F ha1 ha2
              have ex := bool_at hx
              have ey := bool_at hy
              subst ex ey
              dsimp only at F ⊢
              walk_at "mygo"
              refine ⟨X15.keeps F.keep, ?_⟩
              refine wpAny_call (true_spec X T (fun a o e => F.keep _ _ (F14.keep _ _ (B2.S _ _ e))) (by k_room) fun h' tk' kp => ?_)
              exact ⟨rfl, _, _, rfl, fun a o e => kp a o (by simp) e⟩
            case hdn_15 =>
              intro h15 tk15 D15 nD15 hD15 hD15' kp15 hE15
              rw [zip_bools (f := fun p q => deedOp 3 q p) (by omega)] at hD15'
              dsimp only at hD15 kp15 hE15 ⊢
              have F15 := fr_map F14 kp15 hE15
              obtain ⟨N15, nd15⟩ := led_add (pre' := [_, _, _, _, _, _, _]) (pre := [_, _, _, _, _, _, _]) F14 N14 (news_map N14 kp15) rfl nd14 hD15 hD15'
              clear F14 N14
              dsimp only [List.cons_append, List.nil_append] at N15 nd15 ⊢
              obtain ⟨m15, em15, F15'⟩ := fr_some F15
              clear F15
              rename Fr _ _ _ m15 => F15
              have mP15 : m15 "pile" = some (.ref lp) := by rw [em15]; exact mP14
              have mQ15 : m15 "plain" = some (.ref lq) := by rw [em15]; exact mQ14
              have mB15 : m15 "books" = some (.ref lb) := by rw [em15]; exact mB14
              have mR15 : m15 "rows" = some (.ref lr) := by rw [em15]; exact mR14
              have mN15 : m15 "notes" = some (.ref nt) := by rw [em15]; exact mN14
              have mT15 : m15 "runs" = some (.int ns.size tR) := by rw [em15]; exact mT14
              have mA15 : m15 "above" = some (.ref qu) := by rw [em15]; exact mA14
              have mb15 : m15 "below" = some (.ref ql) := by rw [em15]; exact mb14
              have mu15 : m15 "upper" = some (.ref au) := by rw [em15]; exact mu14
              have ml15 : m15 "lower" = some (.ref al) := by rw [em15]; exact ml14
              have mt15 : m15 "told" = some (.ref tt) := by rw [em15]; exact mt14
              have mL15 : m15 "less" = some (.ref D14) := by rw [em15]; exact mL14
              have mM15 : m15 "more" = some (.ref D15) := by rw [em15]; rfl
              clear em15 mP14 mQ14 mB14 mR14 mN14 mT14 mA14 mb14 mu14 ml14 mt14 mL14
              walk_at "mygo"
              refine wpAny_If ?_
              walk_at "mygo"
              refine ⟨Xg2.keeps F15.keep, ?_⟩
              refine wpAny_call (places_spec X T (fun a o e => F15.keep _ _ (B2.S _ _ e)) (by k_room) (by first | exact hh | rfl) (News.get N15 (.tail _ (.tail _ (.tail _ (.tail _ (.tail _ (.tail _ (.tail _ (.tail _ (.head _)))))))))) rfl (by rw [zipB_len]; omega) ?_)
              intro h16 tk16 pL uL nL kp16 frL eL huL
              have F16 := fr_kp0 F15 kp16
              have N16 := news_new F15 (news_kp0 N15 kp16) frL eL
              clear F15 N15
              dsimp only
              walk_at "mygo"
              refine ⟨Xg2.keeps F16.keep, ?_⟩
              refine wpAny_call (places_spec X T (fun a o e => F16.keep _ _ (B2.S _ _ e)) (by k_room) (by first | exact hh | rfl) (News.get N16 (.tail _ (.tail _ (.tail _ (.tail _ (.tail _ (.tail _ (.tail _ (.tail _ (.head _)))))))))) rfl (by rw [zipB_len]; omega) ?_)
              intro h17 tk17 pM uM nM' kp17 frM eM huM
              have F17 := fr_kp0 F16 kp17
              have N17 := news_new F16 (news_kp0 N16 kp17) frM eM
              clear F16 N16
              dsimp only
              walk_at "mygo"
              refine wpAny_newTuple ?_
              have F18 := Fr.pushS F17 (tup2 pL pM)
              have N18 := News.push F17 N17 (tup2 pL pM)
              clear F17 N17
              dsimp only
              walk_at "mygo"
              refine ne_two (News.get N18 (.tail _ (.tail _ (.tail _ (.tail _ (.tail _ (.tail _ (.tail _ (.tail _ (.tail _ (.tail _ (.tail _ (.tail _ (.head _)))))))))))))) (News.get N18 (.head _)) (News.get N18 (.tail _ (.tail _ (.tail _ (.tail _ (.tail _ (.tail _ (.tail _ (.tail _ (.tail _ (.tail _ (.tail _ (.tail _ (.tail _ (.tail _ (.head _)))))))))))))))) (News.get N18 (.tail _ (.tail _ (.tail _ (.tail _ (.tail _ (.tail _ (.tail _ (.tail _ (.tail _ (.tail _ (.tail _ (.tail _ (.tail _ (.head _))))))))))))))) (News.get N18 (.tail _ (.tail _ (.head _)))) (News.get N18 (.tail _ (.head _))) jm ju huL huM (by show A.units + 3 + 64 < cLine; unfold cLine; omega) ?_
              have N18' := news_sub N18 fun q hq => List.mem_cons_of_mem _ (List.mem_cons_of_mem _ (List.mem_cons_of_mem _ hq))
              clear N18
              walk_at "mygo"
              refine ⟨Xg2.keeps F18.keep, ?_⟩
              have hal2 : g2.get? al = some (listOf usl.toArray nl) ∨ (al, listOf usl.toArray nl) ∈ os := hal.imp (lst2 _ _ _) id
              have hau2 : g2.get? au = some (listOf usu.toArray nu) ∨ (au, listOf usu.toArray nu) ∈ os := hau.imp (lst2 _ _ _) id
              have lal2 := PileAt.live (pre := [_, _, _, _, _, _, _, _, _, _, _, _]) F18 N18' hal2
              have lau2 := PileAt.live (pre := [_, _, _, _, _, _, _, _, _, _, _, _]) F18 N18' hau2
              have Gs2 : Stk A hb g2 outer := ⟨K.stack, B2.O, K.clear⟩
              refine joined_call (hb := hb) (L := L') X T B2.S (by omega) hh hl1 hl2 Gs2 rfl (fun q => by cases q) F18 N18' lal2 lau2 (News.get N18' (.tail _ (.tail _ (.tail _ (.tail _ (.tail _ (.tail _ (.tail _ (.tail _ (.tail _ (.tail _ (.tail _ (.head _))))))))))))) il iu jm (pints_sorted below) (pints_sorted above) (pints_sorted _) (Nat.le_trans (pints_len _) (by omega)) (Nat.le_trans (pints_len _) (by omega)) (Nat.le_trans (pints_len _) (by rw [zipB_len]; omega)) less_sub ?_
              intro g3 h19 tk19 J uJ nJ nsJ KT3 F19 N19 eJ hJ iJ sJ mJ
              have eqJ := joined_is (bs := below) (cs := above) (d := deed) (by omega) sJ mJ
              subst eqJ
              have B3 := B2.turn K.clear KT3
              have KTT3 := KTT.trans KT3
              have Xg3 := XK g3 B3.S
              have Tg3 := TK g3 B3.S
              have lst3 : ∀ a xs n, g2.get? a = some (listOf xs n) → g3.get? a = some (listOf xs n) := fun a xs n e => KT3.other _ _ e (B2.O.notList e)
              obtain ⟨os3, N20, nd20, hJ3, sub3⟩ : ∃ os3, News g3 L' h19 ([(h2.objs.size, oi), (lp, listOf pv0.toArray (cp + 1 + 1)), (lq, listOf qv0.toArray (cq + 1 + 1)), (nt, listOf ns cn), (L' + 1 + 1 + 1, oW), (L' + 1 + 1, oD), (L' + 1, oA)] ++ os3) ∧ Nd ([(h2.objs.size, oi), (lp, listOf pv0.toArray (cp + 1 + 1)), (lq, listOf qv0.toArray (cq + 1 + 1)), (nt, listOf ns cn), (L' + 1 + 1 + 1, oW), (L' + 1 + 1, oD), (L' + 1, oA)] ++ os3) ∧ (J, listOf uJ.toArray nJ) ∈ os3 ∧ ∀ p ∈ os, p ∈ os3 := by
                rcases hJ with hJ | hJ
                · have := led_addT (pre' := [_, _, _, _, _, _, _]) (pre := [_, _, _, _, _, _, _]) F18 N18' KT3 N19 rfl nd15 hJ eJ
                  exact ⟨_, this.1, this.2, .head _, fun p hp => .tail _ (.tail _ (.tail _ (.tail _ (.tail _ (.tail _ hp)))))⟩
                · subst hJ
                  have e := News.get N19 (.tail _ (.tail _ (.tail _ (.tail _ (.tail _ (.tail _ (.tail _ (.tail _ (.tail _ (.tail _ (.tail _ (.head _))))))))))))
                  rw [eJ] at e
                  injection e with e
                  refine ⟨_, N19, nd15, ?_, fun p hp => .tail _ (.tail _ (.tail _ (.tail _ (.tail _ hp))))⟩
                  rw [e]; exact (.tail _ (.tail _ (.tail _ (.tail _ (.head _)))))
              clear F18 N18' N19
              dsimp only [List.cons_append, List.nil_append] at N20 nd20 ⊢
              walk_at "mygo"
              refine append_at (hsz := by rw [List.size_toArray, sizeLine_eq]; omega) (News.get N20 (.tail _ (.head _))) (fun h21 hs21 e21 => ?_)
              have F21 := Fr.put F19 N20 (.tail _ (.head _)) (kp_same hs21)
              have N21 := News.put (pre := [_]) N20 nd20 (kp_same hs21) e21
              clear F19 N20
              rw [List.push_toArray] at N21
              dsimp only [List.cons_append, List.nil_append] at N21 ⊢
              walk_at "mygo"
              have nd21 := nd20
              have eD21 : h21.get? (L' + 1 + 1) = some oD := News.get N21 (.tail _ (.tail _ (.tail _ (.tail _ (.tail _ (.head _))))))
              have hql3 := sub3 _ hql
              have hqu3 := sub3 _ hqu
              have lql22 := News.get N21 (List.mem_append_right [_, _, _, _, _, _, _] hql3)
              have lqu22 := News.get N21 (List.mem_append_right [_, _, _, _, _, _, _] hqu3)
              have X22 := Xg3.keeps F21.keep
              have T22 : Top topProg loose mean mg mb _ := Tg3.keeps F21.keep
              refine' zip_eval (cl := [(Str.ofString "deed", L' + 1 + 1)]) (xs := below.map Value.bool) (ys := above.map Value.bool) (fun i => Value.bool (deedOp deed (below.getD i false) (above.getD i false))) ?s2_22 ?s3_22 ?s4_22 ?s5_22 ?s6_22 ?s7_22 ?s8_22 ?sh_22 ?ss_22
              case s2_22 => exact rfl
              case s3_22 => decide
              case s4_22 => exact rfl
              case s5_22 => decide
              case s6_22 => exact rfl
              case s7_22 => exact rfl
              case s8_22 => decide
              case ss_22 => exact fun _ => rfl
              walk_at "mygo"
              refine' need_zip0 ?hh_22 ⟨_, lql22, rfl, _, rfl⟩ ⟨_, lqu22, rfl, _, rfl⟩ (by rw [List.length_map]; omega) (fun b hb => nomatch hb)  ?he_22 ?hdn_22
              case hh_22 => first | exact hh | rfl
              case he_22 =>
                intro C i x y h tk E' m' hx hy F ha1 ha2
                have ex := bool_at hx
                have ey := bool_at hy
                subst ex ey
                dsimp only at F ⊢
                walk_at "mygo"
                refine ⟨X22.keeps F.keep, ?_⟩
                refine wpAny_call (true_spec X T (fun a o e => F.keep _ _ (F21.keep _ _ (B3.S _ _ e))) (by k_room) fun h' tk' kp => ?_)
                exact ⟨rfl, _, _, rfl, fun a o e => kp a o (by simp) e⟩
              case hdn_22 =>
                intro h22 tk22 D22 nD22 hD22 hD22' kp22 hE22
                rw [zip_bools (f := fun p q => deedOp deed p q) (by omega)] at hD22'
                dsimp only at hD22 kp22 hE22 ⊢
                have F22 := fr_kp0 F21 kp22
                obtain ⟨N22, nd22⟩ := led_add (pre' := [_, _, _, _, _, _, _]) (pre := [_, _, _, _, _, _, _]) F21 N21 (news_kp0 N21 kp22) rfl nd21 hD22 hD22'
                clear F21 N21
                dsimp only [List.cons_append, List.nil_append] at N22 nd22 ⊢
                walk_at "mygo"
                refine append_at (hsz := by rw [List.size_toArray, sizeLine_eq]; omega) (News.get N22 (.tail _ (.tail _ (.head _)))) (fun h23 hs23 e23 => ?_)
                have F23 := Fr.put F22 N22 (.tail _ (.tail _ (.head _))) (kp_same hs23)
                have N23 := News.put (pre := [_, _]) N22 nd22 (kp_same hs23) e23
                clear F22 N22
                rw [List.push_toArray] at N23
                dsimp only [List.cons_append, List.nil_append] at N23 ⊢
                walk_at "mygo"
                refine ⟨rfl, mk2 _ ⟨⟨g3, h23, tk22, m15, oi, oA, oD, oW, pv0 ++ [.ref J], qv0 ++ [.ref D22], _, _, ns, cn, _, bs0 ++ [zipB (fun p q => deedOp deed p q) below above]⟩, rfl, ⟨B3, KTT3, F23, mP15, mQ15, mB15, mR15, mN15, ⟨tR, mT15⟩, N23, nd22, cA, cD, cW,
                  (P0.mono (fun a xs n e => lst3 _ _ _ (lst2 _ _ _ e)) fun p hp => .tail _ (sub3 p hp)).snoc (.inr (.tail _ hJ3)) iJ, (Q0.mono fun p hp => .tail _ (sub3 p hp)).snoc (.head _), fun bs hb => ?_, by dsimp only; rw [List.length_append, List.length_singleton]; omega, zn⟩, hoc2, hod2⟩⟩
                rcases List.mem_append.mp hb with hb | hb
                · exact zz bs (by simp [hb])
                · rw [List.mem_singleton.mp hb, zipB_len]; exact zb
        case rest2 =>
          clear F N Xg Tg
          intro s' hI3
          obtain ⟨⟨g, h, tk, m, oi, oA, oD, oW, pvs, qvs, cp, cq, ns, cn, os, bss⟩, rfl, K₃, hoc4, hod4⟩ := of2 _ hI3
          obtain ⟨B, KT, F, mP, mQ, mB, mR, mN, ⟨tR, mT⟩, N, nd, cA, cD, cW, P, Q, zz, zp, zn⟩ := K₃
          dsimp only [AnsC.led, ansLed] at B KT F mP mQ mB mR mN mT N nd cA cD cW P Q zz zp zn hoc4 hod4 ⊢
          have Xg := XK g B.S
          have Tg := TK g B.S
          have zpl : pvs.length = bss.length := P.len
          have zql : qvs.length = bss.length := Q.len
          walk_at "mygo"
          refine wpAny_If ?_
          walk_at "mygo"
          rename_i l0 h0 _ _ lt0
          rename Fr g L' h0 _ => F0
          rename News g L' h0 _ => N0
          rcases List.eq_nil_or_concat bss with rfl | ⟨bs0, bsL, rfl⟩
          · cases P
            cases Q
            refine ne_one (va := []) (va' := []) (ns := []) (News.get N0 (.tail _ (.tail _ (.head _)))) (News.get N0 (.head _)) .nil .nil (by show A.units + 3 + 64 < cLine; unfold cLine; omega) ?_
            walk_at "mygo"
            exact ⟨zs.length - (j + 1), by omega, mkI _ _ ⟨⟨g, h0, _, m, oi, oA, oD, oW, [], [], cp, cq, ns, cn, os, []⟩, j + 1, rfl, ⟨B, KT, F0, mP, mQ, mB, mR, mN, ⟨tR, mT⟩, news_sub N0 fun q hq => List.mem_cons_of_mem _ hq, nd, cA, cD, cW, .nil, .nil, zz, zp, zn⟩, hoc4, hod4, by omega, rfl⟩⟩
          · simp only [List.concat_eq_append] at P Q zz zp zpl zql
            obtain ⟨pv0, aL, usL, nL, rfl, P0, haL, iL⟩ := P.split
            obtain ⟨qv0, qL, mL, rfl, Q0, hqL⟩ := Q.split
            refine ne_len (vb := []) (News.get N0 (.tail _ (.tail _ (.head _)))) (News.get N0 (.head _)) (by simp) (by show A.units + 3 + 64 < cLine; unfold cLine; omega) ?_
            walk_at "mygo"
            refine last_at (vs := pv0) (News.get N0 (.tail _ (.tail _ (.head _)))) ?_
            walk_at "mygo"
            dsimp only
            refine last_at (vs := qv0) (News.get N0 (.tail _ (.tail _ (.tail _ (.head _))))) ?_
            walk_at "mygo"
            (try refine ⟨Xg.keeps F0.keep, ?_⟩)
            refine wpAny_call (places_spec X T (fun a o e => F0.keep _ _ (B.S _ _ e)) (by k_room) (by first | exact hh | rfl) (News.get N0 (List.mem_append_right [_, _, _, _, _, _, _, _] hqL)) rfl (by rw [zz bsL (by simp)]; omega) ?_)
            intro h5 tk5 pP uP nP kp5 frP eP huP
            have F5 := fr_kp0 F0 kp5
            have N5 := news_new F0 (news_kp0 N0 kp5) frP eP
            have laL := PileAt.live (pre := [_, _, _, _, _, _, _, _, _]) F5 N5 haL
            clear F0 N0
            dsimp only
            walk_at "mygo"
            refine ne_one laL (News.get N5 (.head _)) iL huP (by show A.units + 3 + 64 < cLine; unfold cLine; omega) ?_
            walk_at "mygo"
            exact ⟨zs.length - (j + 1), by omega, mkI _ _ ⟨⟨g, h5, _, m, oi, oA, oD, oW, pv0 ++ [.ref aL], qv0 ++ [.ref qL], cp, cq, ns, cn, os, bs0 ++ [bsL]⟩, j + 1, rfl, ⟨B, KT, F5, mP, mQ, mB, mR, mN, ⟨tR, mT⟩, news_sub N5 fun q hq => List.mem_cons_of_mem _ (List.mem_cons_of_mem _ hq), nd, cA, cD, cW, P, Q, zz, zp, zn⟩, hoc4, hod4, by omega, rfl⟩⟩
    · obtain rfl : j = zs.length := by omega
      refine wpAny_pyNext_list_end (by first | exact hh | rfl) ⟨oi, News.get N (.head _), hoc, hod⟩ (list_base F B.num) (by simp [ints_len hvs]) fun h3 hs3 => ?_
      have kp3 : Kp [h2.objs.size] h h3 := fun b o n e => hs3 b o (by simpa using n) e
      have F3 := Fr.put F N (.head _) kp3
      have N3 := news_kp (news_sub N fun q hq => .tail _ hq) kp3 fun q hq => by
        have := Nd.apart (pre := []) nd q (.inr hq)
        simpa using this
      clear F N
      dsimp only
      walk_at "mygo"
      refine len_in N3 (l := nt) (xs := ns) (n := cn) (.tail _ (.tail _ (.head _))) (by omega) fun t₄ tk₄ => ?_
      walk_at "mygo"
      rw [beq_self_eq_true]
      refine k h3 _ ns cn (fun a o ne e => ?_) (News.get N3 (.tail _ (.tail _ (.head _))))
      have e' := hg' a o (by simpa using ne) e
      exact ⟨fun nf => F3.keep _ _ (KT.other _ _ e' nf), (KT.up e').imp fun sl q => F3.keep _ _ q⟩
end
end
theorem off_Q7 : True := by
  w_top off
  k_with_none
  trivial
-- Q7
section
open PySem PySem.W PyProof.Rows PySem.Calls
theorem kw_Q7_1 : True := by
  k_with_none
  k_with "mytree" => ((first | (with_reducible show wpAny _ _ _ _ _ _) | (with_reducible show ite _ _ _)); (fail_if_success (with_reducible show wpAny _ _ (eval (PySem.Expr.ListComp _ _ _ _) _) _ _ _)); (fail_if_success (with_reducible show wpAny _ _ (exec (PySem.Stmt.For _ _ _ _ _) _) _ _ _)); (fail_if_success (with_reducible show wpAny _ _ (exec (PySem.Stmt.While _ _ _ _) _) _ _ _)); (fail_if_success (with_reducible show wpAny _ _ (exec (PySem.Stmt.Try _ _ _ _ _) _) _ _ _)); (fail_if_success (with_reducible show wpAny _ _ (exec (PySem.Stmt.Assign _ (PySem.Expr.ListComp _ _ _ _) _) _) _ _ _)))
  k_with "mygo" => (repeat' (first | (k_unfold; (try dsimp only)) | (walk_at "mytree"; walk1) | (dsimp only; walk_at "mytree"; walk1) | fail "no step"))
  trivial
section
variable {w : World} {A : Around} {s : Shared} {hb : Heap} {loose : List Str} {mean : ExcName → Option Value} {mg mb : Str → Option Value} {prog : Program} {K : Frag} {p : Program}
  {R : Result → Shared → Prop} {name qual : Str} {params : Arguments} {body : List Stmt} {scope : Scope} {dV kV doc pm cdv ct oc : Value} {an od : Option Addr} {osl : Array (Option Value)} {f : Addr} {args : Args} {binds : List (Str × Value)}
/-- enter, where the def has cells -/
theorem enterCQ (X : K.In hb) (T : Top p loose mean mg mb hb) (S : hb.StaysIn s.heap) (D : List (Addr × Obj)) (hD : ∀ q ∈ D, s.heap.get? q.1 = some q.2 ∧ hb.get? q.1 = none)
    (ho : K.lookup f = some ⟨oc, od, .func (fnOf name qual params body scope dV kV doc pm an cdv ct), osl⟩) (hcd : codeIn K cdv qual = true) (hroom : A.depth < recursionLimit)
    (hbind : BindsTo s (fnOf name qual params body scope dV kV doc pm an cdv ct) args binds) (hkind : (binds.all fun y => scope.names.lookup y.1 == some .local || scope.names.lookup y.1 == some .cell) = true)
    (hnd : ((cellsFrom 0 scope.names []).map (·.1)).Nodup)
    (h : ∀ g L h₁ tk cells, Fr g L h₁ (bindL (envOfC qual scope L f cdv).kindOf binds fun _ => none) → News g L h₁ (cells ++ D) →
      CellsAre (bindC (envOfC qual scope L f cdv).kindOf binds fun _ => none) (cellsFrom (L + 1) scope.names []) cells → K.In g → Top p loose mean mg mb g → hb.StaysIn g →
      (∀ a o, a ∉ D.map (·.1) → s.heap.get? a = some o → g.get? a = some o) → s.heap.objs.size = L → (∀ q ∈ D, q.1 < L) →
      wpC (model prog w) (A.deeper (envOfC qual scope L f cdv)) (execs body (envOfC qual scope L f cdv))
        (fun fl s' => R (.ok (.ret (match fl with | .ret v => v | _ => .none))) s')
        (fun e s' => wpAny (model prog w) (A.deeper (envOfC qual scope L f cdv)) (leaving (envOfC qual scope L f cdv) e) (fun _ s'' => R (.error e) s'') (fun e' s'' => R (.error e') s'') s')
        { s with heap := h₁, toks := tk })
    (hco : scope.isCoroutine = false := by rfl) (hgen : scope.isGenerator = false := by rfl) (hk : scope.kind = .function := by rfl) : codeC (model prog w) A (.call (.ref f) args) R s := by
  refine cc_call_function (fd := fnX name qual params body scope [] dV kV doc pm an cdv ct) hroom (S _ _ (X _ _ ho)) rfl hco hgen rfl (codeRec_of (Frag.In.keeps X S) hcd) (c_any (hbind _ _ _ _ ?_))
  refine wpAny_newFunctionEnv_cells hk (kindsX hkind _) fun env' he s' x => ?_
  subst he
  refine ⟨(T.nolimit.keeps S).keeps x.toInCall.keep, cc_func ?_⟩
  obtain ⟨h₁, tk, rfl, _⟩ := x.done
  have hk₁ := x.toInCall.keep
  obtain ⟨cells, NC, Y⟩ := Cl.news (h₀ := s.heap) (Nat.le_refl _) fun n c hm => ⟨x.cell n c (lookup_of_mem_nodup (cellsFrom_names scope.names 0 (s.heap.objs.size + 1) [] [] rfl ▸ hnd) hm), x.above n c hm⟩
  have nm : ∀ b o, hb.get? b = some o → b ∉ D.map (·.1) := fun b o e q => by
    obtain ⟨q', hq, rfl⟩ := List.mem_map.mp q
    rw [(hD _ hq).2] at e; cases e
  have st : hb.StaysIn (hideAll s.heap (D.map (·.1))) := fun b o e => hideAll_get _ (S b o e) (nm b o e)
  refine h (hideAll s.heap (D.map (·.1))) s.heap.objs.size h₁ tk cells ⟨x.toInCall.ns, fun b o e => hk₁ b o (of_hideAll _ e), Nat.le_of_eq (hideAll_size _ _)⟩ (fun q hq => ?_) Y
    (Frag.In.keeps (h' := hideAll s.heap (D.map (·.1))) X fun b o e => st b o e) (Top.keeps (h' := hideAll s.heap (D.map (·.1))) T fun b o e => st b o e) st (fun a o n e => hideAll_get _ e n) rfl (fun q hq => Heap.lt_size (hD q hq).1)
  rcases List.mem_append.mp hq with hq | hq
  · refine ⟨(NC q hq).1, (NC q hq).2.1, ?_⟩
    cases z : (hideAll s.heap (D.map (·.1))).get? q.1 with
    | none => rfl
    | some o => have := of_hideAll _ z; rw [(NC q hq).2.2] at this; cases this
  · exact ⟨hk₁ _ _ (hD q hq).1, Nat.ne_of_lt (Heap.lt_size (hD q hq).1), hideAll_none _ (List.mem_map_of_mem hq)⟩
end
end
theorem off_Q6 : True := by
  w_top off
  k_with_none
  trivial
-- Q6
section
open PySem PySem.W PyProof.Rows PySem.Calls
theorem kw_Q6_1 : True := by
  k_with_none
  k_with "mytree" => ((first | (with_reducible show wpAny _ _ _ _ _ _) | (with_reducible show ite _ _ _)); (fail_if_success (with_reducible show wpAny _ _ (eval (PySem.Expr.ListComp _ _ _ _) _) _ _ _)); (fail_if_success (with_reducible show wpAny _ _ (exec (PySem.Stmt.For _ _ _ _ _) _) _ _ _)); (fail_if_success (with_reducible show wpAny _ _ (exec (PySem.Stmt.While _ _ _ _) _) _ _ _)); (fail_if_success (with_reducible show wpAny _ _ (exec (PySem.Stmt.Try _ _ _ _ _) _) _ _ _)); (fail_if_success (with_reducible show wpAny _ _ (exec (PySem.Stmt.Assign _ (PySem.Expr.ListComp _ _ _ _) _) _) _ _ _)))
  k_with "mygo" => (repeat' (first | (k_unfold; (try dsimp only)) | (walk_at "mytree"; walk1) | (dsimp only; walk_at "mytree"; walk1) | fail "no step"))
  trivial
theorem strs_one {vs : List Value} {a : Str} (h : StrsAre vs [a]) : ∃ t, vs = [.str a t] := by
  cases h with
  | cons y t h => cases h; exact ⟨t, rfl⟩
theorem strs_two {vs : List Value} {a b : Str} (h : StrsAre vs [a, b]) : ∃ t u, vs = [.str a t, .str b u] := by
  cases h with
  | cons y t h => obtain ⟨u, rfl⟩ := strs_one h; exact ⟨t, u, rfl⟩
section
variable {w : World} {A : Around} {s : Shared} {hb : Heap} {loose : List Str} {mean : ExcName → Option Value} {mg mb : Str → Option Value} {R : Result → Shared → Prop}
theorem parse_ok (X : (hd.heap_1 w.params).In hb) (T : Top topProg loose mean mg mb hb) (S : hb.StaysIn s.heap) (hroom : A.depth < 800) (hh : A.handled = none) {t a b : Str} {tt : Tok} (hlen : t.length ≤ 1000)
    (hp : (Txt.splitMax t "=" 1).map Txt.strip = [a, b])
    (k : ∀ h' tk p dp ta tb, Kp [] s.heap h' → s.heap.get? p = none → h'.get? p = some (pairObj dp (.str a ta) (.str b tb)) → R (.ok (.ret (.ref p))) { s with heap := h', toks := tk }) :
    codeC (model Challenge.rw_mq0106_01.row.prog w) A (.call (.ref 197) ⟨[.ref 203, .str t tt], []⟩) R s := by
  refine parse_gen X T S hroom hh hlen fun env L g h' tk m rs hf hk F Sg kp hrs => ?_
  rw [hp] at hrs
  obtain ⟨ta, tb, rfl⟩ := strs_two hrs
  refine cc_any (pair_make (hb := hb) X T (fun a o q => F.keep _ _ (Sg _ _ q)) (by rw [depth_deeper]; omega) fun h2 tk2 p dp kp2 fp hp2 => ?_)
  exact k h2 tk2 p dp ta tb ((kp.trans (Kp.of_stays F.keep)).trans kp2) (by
    cases q : s.heap.get? p with
    | none => rfl
    | some o => have := F.keep _ _ (kp _ _ (by simp) q); rw [fp] at this; cases this) hp2
theorem parse_bad (X : (hd.heap_1 w.params).In hb) (T : Top topProg loose mean mg mb hb) (S : hb.StaysIn s.heap) (hroom : A.depth < 800) (hh : A.handled = none) {t a : Str} {tt : Tok} {outer : List Env} (K : Stk A hb s.heap outer) (hlen : t.length ≤ 1000)
    (hp : (Txt.splitMax t "=" 1).map Txt.strip = [a])
    (k : ∀ h' tk e oe T oT, KpU (frs outer) s.heap h' → s.heap.get? e = none → s.heap.get? T = none → T ≠ e → h'.get? e = some oe → h'.get? T = some oT → ExcObj "TypeError" T oe → TbObj .none oT → R (.error (.ref e)) { s with heap := h', toks := tk }) :
    codeC (model Challenge.rw_mq0106_01.row.prog w) A (.call (.ref 197) ⟨[.ref 203, .str t tt], []⟩) R s := by
  refine parse_gen X T S hroom hh hlen fun env L g h' tk m rs hf hk F Sg kp hrs => ?_
  rw [hp] at hrs
  obtain ⟨ta, rfl⟩ := strs_one hrs
  refine pair_fails (hb := hb) X (fun a o q => F.keep _ _ (Sg _ _ q)) (by rw [depth_deeper]; omega) (by first | exact hh | rfl) fun h2 tk2 e x => ?_
  obtain ⟨oe, tx, he, hc, hd⟩ := x.there
  have O : Outs g outer := K.outs.keeps fun b o q => kp b o (by simp) q
  show wpAny _ _ (noteFrame (.ref e) env >>= fun _ => setFlight (.ref e) none) _ _ _
  refine wpAny_bind (note_new (L := L) (g := g) (h := h') (m := m) (news := []) (Around.frames_deeper K.stack) hf hk O F (fun p q => by cases q) x.keeps x.new he hd rfl fun h3 g3 T' oT KT F3 N3 ne3 xt3 => ?_)
  refine flight_to F3 N3 ne3 ⟨(Obj.cls_mapFields _ _).trans hc, _, Obj.data_mapFields hd _, by simp⟩ xt3 fun h4 oT4 F4 N4 xt4 => ?_
  have gn : ∀ a, g.get? a = none → s.heap.get? a = none := fun a q => by
    cases z : s.heap.get? a with
    | none => rfl
    | some o => rw [kp a o (by simp) z] at q; cases q
  have g3n : ∀ a, g3.get? a = none → g.get? a = none := fun a q => by
    cases z : g.get? a with
    | none => rfl
    | some o => obtain ⟨sl, y⟩ := KT.up z; rw [y] at q; cases q
  refine k h4 tk2 e _ T' oT4 (KpU.of_turn (fun b o q => kp b o (by simp) q) KT F4.keep) (gn _ (g3n _ (N4 _ (.head _)).2.2)) (gn _ (g3n _ (N4 _ (.tail _ (.head _))).2.2)) ?_ (News.get N4 (.head _)) (News.get N4 (.tail _ (.head _)))
    ⟨(Obj.cls_mapFields _ _).trans hc, _, Obj.data_mapFields hd _, by simp⟩ xt4
  exact fun q => ne3.1 q.symm
end
end
theorem off_N1 : True := by
  w_top off
  k_with_none
  trivial
-- N1
section
open PySem PySem.W PyProof.Rows PySem.Calls
theorem kw_N1_1 : True := by
  k_with_none
  k_with "mytree" => ((first | (with_reducible show wpAny _ _ _ _ _ _) | (with_reducible show ite _ _ _)); (fail_if_success (with_reducible show wpAny _ _ (PySem.getMethod (Value.type _) _ _) _ _ _)); (fail_if_success (with_reducible show wpAny _ _ (PySem.call (Value.type "type") _) _ _ _)); (fail_if_success (with_reducible show wpAny _ _ (PySem.call (Value.builtin _) _) _ _ _)); (fail_if_success (with_reducible show wpAny _ _ (eval (PySem.Expr.ListComp _ _ _ _) _) _ _ _)); (fail_if_success (with_reducible show wpAny _ _ (exec (PySem.Stmt.For _ _ _ _ _) _) _ _ _)); (fail_if_success (with_reducible show wpAny _ _ (exec (PySem.Stmt.While _ _ _ _) _) _ _ _)); (fail_if_success (with_reducible show wpAny _ _ (exec (PySem.Stmt.Try _ _ _ _ _) _) _ _ _)); (fail_if_success (with_reducible show wpAny _ _ (exec (PySem.Stmt.Assign _ (PySem.Expr.ListComp _ _ _ _) _) _) _ _ _)))
  k_with "mygo" => (repeat' (first | (k_unfold; (try dsimp only)) | (walk_at "mytree"; walk1) | (dsimp only; walk_at "mytree"; walk1) | fail "no step"))
  trivial
theorem tg_kind : builtinKind "tuple.__getitem__" = some .slot := by decide +kernel
theorem tg_split : splitId "tuple.__getitem__" = some ("tuple", "__getitem__") := by decide +kernel
theorem tg_args (a b : Value) : argsOk "tuple.__getitem__" ⟨[a, b], []⟩ := by unfold argsOk; kernel_rfl
theorem tg_entry : entryFor table "tuple.__getitem__" = some Builtin.«tuple.__getitem__» := entryFor_of_tree (by kernel_rfl)
theorem hi_tg : handedIn (.builtin "tuple.__getitem__") = true := by kernel_rfl
section
variable {w : World} {h : Heap}
theorem tg_find (X : (hd.heap_1 w.params).In h) : findCls (hd.heap_1 w.params) (.type "tuple") (.type "type") "__getitem__" = some (.val (.builtin "tuple.__getitem__")) := by
  revert X; k_fill; intro X
  kernel_rfl
theorem pa_ga (X : (hd.heap_1 w.params).In h) : Looks (model Challenge.rw_mq0106_01.row.prog w) h (typeLookup (.ref 203) "__getattribute__") (some (.builtin "tuple.__getattribute__")) := by
  revert X; k_fill; intro X
  exact looks_findIn X (by kernel_rfl)
theorem pa_hook (X : (hd.heap_1 w.params).In h) : Looks (model Challenge.rw_mq0106_01.row.prog w) h (typeLookup (.ref 203) "__getattr__") none := by
  revert X; k_fill; intro X
  exact looks_findIn X (by kernel_rfl)
theorem pa_name (X : (hd.heap_1 w.params).In h) {p : Addr} : Looks (model Challenge.rw_mq0106_01.row.prog w) h (Builtin.ObjectAttr.find (.ref p) (.ref 203) "name") (.bind (.ref 61) (.ref 172)) := by
  revert X; k_fill; intro X
  exact Looks.of_peek X (by kernel_rfl)
theorem pa_value (X : (hd.heap_1 w.params).In h) {p : Addr} : Looks (model Challenge.rw_mq0106_01.row.prog w) h (Builtin.ObjectAttr.find (.ref p) (.ref 203) "value") (.bind (.ref 61) (.ref 175)) := by
  revert X; k_fill; intro X
  exact Looks.of_peek X (by kernel_rfl)
end
section
variable {w : World} {A : Around} {E : Value → Shared → Prop} {h : Heap} {g : Array GenState} {d : Drawn} {tk : Nat} {os : OsState}
theorem isub_run {Q : Value → Shared → Prop} (X : (hd.heap_1 w.params).In h) (hq : Q (.bool true) ⟨h, g, d, tk, os⟩) :
    wpAny (model Challenge.rw_mq0106_01.row.prog w) A (call (.builtin "issubclass") [.ref 203, .type "tuple"]) Q E ⟨h, g, d, tk, os⟩ := by
  have F0 := pr_isType X
  have F1 := pr_sub X
  have F2 : Looks (model Challenge.rw_mq0106_01.row.prog w) h (isType (.type "tuple")) true := Looks.of_pure (by first | rfl | kernel_rfl)
  have F3 : Looks (model Challenge.rw_mq0106_01.row.prog w) h (typeOf (.type "tuple")) (.type "type") := Looks.of_pure ty_tuple
  refine wpAny_call (codeAny_call_builtin F.plain_issubclass F.entry_issubclass ?_)
  simp only [checkBuiltinCall, F.kind_issubclass]
  have ok := F.args_issubclass_2 (.ref 203) (.type "tuple")
  have hfin : wpAny (model Challenge.rw_mq0106_01.row.prog w) A.in1 (Builtin.«issubclass» ⟨[.ref 203, .type "tuple"], []⟩) (fun fin s' => match fin with | .done f => wants Q E (.ok f) s' | .again c' => c'.quiet = true ∧ codeAny (model Challenge.rw_mq0106_01.row.prog w) A c' (wants Q E) s') (fun e s' => wants Q E (.error e) s') ⟨h, g, d, tk, os⟩ := by
    refine issubclass_outer ?_
    unfold Builtin.«issubclass.nested»
    show wpAny _ _ (typeOf (.type "tuple") >>= _) _ _ _
    refine wpAny_bind (F3.at ?_)
    rw [if_pos (by decide)]
    refine wpAny_bind (wpAny_bind (F0.at ?_))
    refine wpAny_bind (m := isType (.type "tuple")) (F2.at ?_)
    rw [if_pos (by decide)]
    first | refine wpAny_bind (F1.at ?_) | refine F1.at ?_
    repeat (first | exact hq | refine wpAny_pure ?_)
  cases hsig : Manifest.signature? "issubclass" with
  | none => exact wpAny_pure hfin
  | some sig =>
    simp only [argsOk, hsig] at ok
    have h2 : Bind.checkArgs "issubclass" sig ⟨[.ref 203, .type "tuple"], []⟩ = pure () := ok
    show wpAny _ _ (Bind.checkArgs "issubclass" sig ⟨[.ref 203, .type "tuple"], []⟩) _ _ _
    rw [h2]; exact wpAny_pure hfin
theorem tg_run {p dp : Addr} {a b v : Value} {i : Int} {u : Tok} {Q : Value → Shared → Prop} (X : (hd.heap_1 w.params).In h) (hp : h.get? p = some (pairObj dp a b)) (hi : (i = 0 ∧ v = a) ∨ (i = 1 ∧ v = b)) (hq : Q v ⟨h, g, d, tk, os⟩) :
    wpAny (model Challenge.rw_mq0106_01.row.prog w) A (call (.builtin "tuple.__getitem__") [.ref p, .int i u]) Q E ⟨h, g, d, tk, os⟩ := by
  have F0 : Looks (model Challenge.rw_mq0106_01.row.prog w) h (typeOf (.ref p)) (.ref 203) := (Looks.ld (part := some headPart) hp).andThen .now
  have F1 : Looks (model Challenge.rw_mq0106_01.row.prog w) h (isInstance (.ref p) (.type "tuple")) true := F0.andThen (pr_sub X)
  refine wpAny_call (codeAny_call_builtin_code (Code.quiet_builtin _ (by decide +kernel)) ?_)
  refine @check_slot (model Challenge.rw_mq0106_01.row.prog w) _ _ _ "tuple.__getitem__" "tuple" "__getitem__" (.ref p) [.int i u] [] _ tg_kind tg_split F1 (tg_args _ _) ?_
  refine codeAny_builtin tg_entry ?_
  have hf : ¬ (decide (i < -2 ^ 63) || decide (i ≥ 2 ^ 63)) = true := by rcases hi with ⟨rfl, _⟩ | ⟨rfl, _⟩ <;> decide
  have f1 := AutoSeq1.idx_int
  have hv : (seqIndex? i (#[a, b] : Array Value).size).bind ((#[a, b] : Array Value)[·]?) = some v := by rcases hi with ⟨rfl, rfl⟩ | ⟨rfl, rfl⟩ <;> rfl
  rcases hi with ⟨rfl, rfl⟩ | ⟨rfl, rfl⟩
  · wp_walk using wpAny_loadPart' hp
    exact hq
  · wp_walk using wpAny_loadPart' hp
    exact hq
end
section
variable {w : World} {A : Around} {s : Shared} {hb : Heap} {loose : List Str} {mean : ExcName → Option Value} {mg mb : Str → Option Value} {R : Result → Shared → Prop}
theorem get_name (X : (hd.heap_1 w.params).In hb) (T : Top topProg loose mean mg mb hb) (S : hb.StaysIn s.heap) (hroom : A.depth < 900) {p dp : Addr} {a b : Value} (hp : s.heap.get? p = some (pairObj dp a b))
    (k : ∀ h' tk, Kp [] s.heap h' → R (.ok (.ret a)) { s with heap := h', toks := tk }) :
    codeAny (model Challenge.rw_mq0106_01.row.prog w) A (.call (.ref 61) ⟨[.ref 172, .ref p, .ref 203], []⟩) R s := by
  have tnf := tg_find X
  revert tnf
  revert X; k_fill; intro X tnf
  refine' enter (binds := [(PySem.Str.ofString "self", Value.ref 172), (PySem.Str.ofString "obj", Value.ref p), (PySem.Str.ofString "objtype", Value.ref 203)]) X T S [] (by simp) ?k6 ?k7 ?k8 ?k9 ?kB ?_ ?c2 ?c3 ?c4 ?c5
  case k6 => k_is
  case k7 => k_is
  case k8 => k_room
  case k9 => exact binds_K (X.keeps S) rfl (by k_is) rfl rfl rfl
  case kB => exact locs rfl
  case c2 => decide
  case c3 => exact rfl
  case c4 => exact rfl
  case c5 => exact rfl
  intro g' L' h' F' N' X' T' S' hg' hL' hl'
  (try dsimp only)
  k_fold
  clear X T S
  walk_at "mygo"
  refine call_type_obj (oe := pairObj dp a b) (Fr.keep (by assumption) _ _ (hg' _ _ (by simp) hp)) (by rfl) ?_
  walk_at "mygo"
  refine isub_run (X'.keeps (Fr.keep (by assumption))) ?_
  walk_at "mygo"
  refine' ty_method (T := "tuple") (id := "tuple.__getitem__") (K := hd.heap_1 w.params) ?m1 ?m2 ?m3 ?m4 ?m5 ?_
  case m1 => exact X'.keeps (Fr.keep (by assumption))
  case m2 => exact stub_tuple
  case m3 => exact ty_tuple
  case m4 => exact tnf
  case m5 => exact hi_tg
  dsimp only
  walk_at "mygo"
  refine tg_run (X'.keeps (Fr.keep (by assumption))) (Fr.keep (by assumption) _ _ (hg' _ _ (by simp) hp)) (.inl ⟨rfl, rfl⟩) ?_
  exact k _ _ (kp_of (by assumption) hg')
theorem get_value (X : (hd.heap_1 w.params).In hb) (T : Top topProg loose mean mg mb hb) (S : hb.StaysIn s.heap) (hroom : A.depth < 900) {p dp : Addr} {a b : Value} (hp : s.heap.get? p = some (pairObj dp a b))
    (k : ∀ h' tk, Kp [] s.heap h' → R (.ok (.ret b)) { s with heap := h', toks := tk }) :
    codeAny (model Challenge.rw_mq0106_01.row.prog w) A (.call (.ref 61) ⟨[.ref 175, .ref p, .ref 203], []⟩) R s := by
  have tnf := tg_find X
  revert tnf
  revert X; k_fill; intro X tnf
  refine' enter (binds := [(PySem.Str.ofString "self", Value.ref 175), (PySem.Str.ofString "obj", Value.ref p), (PySem.Str.ofString "objtype", Value.ref 203)]) X T S [] (by simp) ?k6 ?k7 ?k8 ?k9 ?kB ?_ ?c2 ?c3 ?c4 ?c5
  case k6 => k_is
  case k7 => k_is
  case k8 => k_room
  case k9 => exact binds_K (X.keeps S) rfl (by k_is) rfl rfl rfl
  case kB => exact locs rfl
  case c2 => decide
  case c3 => exact rfl
  case c4 => exact rfl
  case c5 => exact rfl
  intro g' L' h' F' N' X' T' S' hg' hL' hl'
  (try dsimp only)
  k_fold
  clear X T S
  walk_at "mygo"
  refine call_type_obj (oe := pairObj dp a b) (Fr.keep (by assumption) _ _ (hg' _ _ (by simp) hp)) (by rfl) ?_
  walk_at "mygo"
  refine isub_run (X'.keeps (Fr.keep (by assumption))) ?_
  walk_at "mygo"
  refine' ty_method (T := "tuple") (id := "tuple.__getitem__") (K := hd.heap_1 w.params) ?m1 ?m2 ?m3 ?m4 ?m5 ?_
  case m1 => exact X'.keeps (Fr.keep (by assumption))
  case m2 => exact stub_tuple
  case m3 => exact ty_tuple
  case m4 => exact tnf
  case m5 => exact hi_tg
  dsimp only
  walk_at "mygo"
  refine tg_run (X'.keeps (Fr.keep (by assumption))) (Fr.keep (by assumption) _ _ (hg' _ _ (by simp) hp)) (.inr ⟨rfl, rfl⟩) ?_
  exact k _ _ (kp_of (by assumption) hg')
end
end
theorem off_N2 : True := by
  w_top off
  k_with_none
  trivial
-- N2
section
open PySem PySem.W PyProof.Rows PySem.Calls Builtin Builtin.ObjectAttr
theorem kw_N2_1 : True := by
  k_with_none
  k_with "mytree" => ((first | (with_reducible show wpAny _ _ _ _ _ _) | (with_reducible show ite _ _ _)); (fail_if_success (with_reducible show wpAny _ _ (eval (PySem.Expr.ListComp _ _ _ _) _) _ _ _)); (fail_if_success (with_reducible show wpAny _ _ (exec (PySem.Stmt.For _ _ _ _ _) _) _ _ _)); (fail_if_success (with_reducible show wpAny _ _ (exec (PySem.Stmt.While _ _ _ _) _) _ _ _)); (fail_if_success (with_reducible show wpAny _ _ (exec (PySem.Stmt.Try _ _ _ _ _) _) _ _ _)); (fail_if_success (with_reducible show wpAny _ _ (exec (PySem.Stmt.Assign _ (PySem.Expr.ListComp _ _ _ _) _) _) _ _ _)))
  k_with "mygo" => (repeat' (first | (k_unfold; (try dsimp only)) | (walk_at "mytree"; walk1) | (dsimp only; walk_at "mytree"; walk1) | fail "no step"))
  trivial
theorem tga_entry : entryFor table "tuple.__getattribute__" = some Builtin.«object.__getattribute__» := entryFor_alias (id' := "object.__getattribute__") (by kernel_rfl) (by decide +kernel) (by decide +kernel) (by kernel_rfl)
theorem tga_kind : builtinKind "tuple.__getattribute__" = some .slot := by decide +kernel
theorem tga_split : splitId "tuple.__getattribute__" = some ("tuple", "__getattribute__") := by decide +kernel
theorem tga_args (a b : Value) : argsOk "tuple.__getattribute__" ⟨[a, b], []⟩ := by unfold argsOk; kernel_rfl
theorem tga_bind (self : Value) : bindSpecial (.builtin "tuple.__getattribute__") self = pure (.builtin "tuple.__getattribute__", [self]) :=
  (Slot.of (T := "tuple") (name := "__getattribute__") (owner := "tuple") (n := "__getattribute__") (by rw [typeLookup_type, builtinLookup_eq_fast]; kernel_rfl) (by decide +kernel) (by decide +kernel) (by decide +kernel)
    (.inl (by decide +kernel)) (by rw [isSubtype_type]; kernel_rfl)).bind self
section
variable {w : World} {A : Around} {E : Value → Shared → Prop} {h : Heap} {g : Array GenState} {d : Drawn} {t : Nat} {os : OsState} {hb : Heap} {loose : List Str} {mean : ExcName → Option Value} {mg mb : Str → Option Value}
theorem pair_name {p dp : Addr} {a b : Value} {e : Bool} {Q : Value → Shared → Prop} (X₀ : (hd.heap_1 w.params).In hb) (T : Top topProg loose mean mg mb hb) (S : hb.StaysIn h) (hroom : A.depth < 880) (hp : h.get? p = some (pairObj dp a b)) (hr : handedIn a = true)
    (hq : ∀ h' tk, Kp [] h h' → Q a ⟨h', g, d, tk, os⟩) :
    wpAny (model Challenge.rw_mq0106_01.row.prog w) A (getAttr (.ref p) "name" e) Q E ⟨h, g, d, t, os⟩ := by
  have X := X₀.keeps S
  have L0 : Looks (model Challenge.rw_mq0106_01.row.prog w) h (typeOf (.ref p)) (.ref 203) := (Looks.ld (part := some headPart) hp).andThen .now
  have L1 := pa_ga X
  have L2 := pa_name X (p := p)
  have L3 := pa_hook X
  unfold getAttr getAttrBy
  refine wpAny_bind (wpAny_mkText (wpAny_holding (wpAny_bind (L0.at (wpAny_bind (L1.at ?_))))))
  show wpAny _ _ (getAttrByItsOwn (.ref p) (.str "name" t) (.ref 203) (.builtin "tuple.__getattribute__") true e) _ _ _
  unfold getAttrByItsOwn hookBefore callGetattribute boundAndCalled
  rw [if_pos (show onTheHeap (.ref 203) = true from rfl)]
  refine wpAny_bind (L3.at ?_)
  refine wpAny_bind (wpAny_attempt (wpAny_holding ?_))
  have he : (e && onTheHeap (Value.builtin "tuple.__getattribute__")) = false := by cases e <;> rfl
  rw [he]
  show wpAny _ _ (bindSpecial (.builtin "tuple.__getattribute__") (.ref p) >>= _) _ _ _
  refine wpAny_bind (wpAny_of_eq (tga_bind _) ?_)
  have F1 : Looks (model Challenge.rw_mq0106_01.row.prog w) h (isInstance (.ref p) (.type "tuple")) true := L0.andThen (pr_sub X)
  refine wpAny_call (codeAny_call_builtin_code (Code.quiet_builtin _ (by decide +kernel)) ?_)
  refine @check_slot (model Challenge.rw_mq0106_01.row.prog w) _ _ _ "tuple.__getattribute__" "tuple" "__getattribute__" (.ref p) [.str "name" t] [] _ tga_kind tga_split F1 (tga_args _ _) ?_
  refine codeAny_builtin tga_entry ?_
  unfold Builtin.«object.__getattribute__»
  show wpAny _ _ (pure ((.ref p, [.str "name" t]) : Value × List Value) >>= _) _ _ _
  refine wpAny_bind (wpAny_pure (wpAny_bind (wpAny_pure (wpAny_bind (L0.at (wpAny_bind (L2.at ?_)))))))
  dsimp only
  unfold bindTo
  show wpAny _ _ (holding [_] (call (.ref 61) _) >>= fun v => ret v) _ _ _
  refine wpAny_bind (wpAny_holding (wpAny_call (get_name X₀ T (by exact S) (by show (Around.under _ _).depth < 900; exact Nat.lt_of_le_of_lt (Nat.le_of_eq (by rfl)) (Nat.lt_of_lt_of_le hroom (by omega))) hp fun h' tk' kp => ?_)))
  dsimp only
  refine wpAny_pure ?_
  show wpAny _ _ (handedOut a) _ _ _
  rw [handedOut_of hr]
  exact wpAny_pure (hq _ _ kp)
theorem pair_value {p dp : Addr} {a b : Value} {e : Bool} {Q : Value → Shared → Prop} (X₀ : (hd.heap_1 w.params).In hb) (T : Top topProg loose mean mg mb hb) (S : hb.StaysIn h) (hroom : A.depth < 880) (hp : h.get? p = some (pairObj dp a b)) (hr : handedIn b = true)
    (hq : ∀ h' tk, Kp [] h h' → Q b ⟨h', g, d, tk, os⟩) :
    wpAny (model Challenge.rw_mq0106_01.row.prog w) A (getAttr (.ref p) "value" e) Q E ⟨h, g, d, t, os⟩ := by
  have X := X₀.keeps S
  have L0 : Looks (model Challenge.rw_mq0106_01.row.prog w) h (typeOf (.ref p)) (.ref 203) := (Looks.ld (part := some headPart) hp).andThen .now
  have L1 := pa_ga X
  have L2 := pa_value X (p := p)
  have L3 := pa_hook X
  unfold getAttr getAttrBy
  refine wpAny_bind (wpAny_mkText (wpAny_holding (wpAny_bind (L0.at (wpAny_bind (L1.at ?_))))))
  show wpAny _ _ (getAttrByItsOwn (.ref p) (.str "value" t) (.ref 203) (.builtin "tuple.__getattribute__") true e) _ _ _
  unfold getAttrByItsOwn hookBefore callGetattribute boundAndCalled
  rw [if_pos (show onTheHeap (.ref 203) = true from rfl)]
  refine wpAny_bind (L3.at ?_)
  refine wpAny_bind (wpAny_attempt (wpAny_holding ?_))
  have he : (e && onTheHeap (Value.builtin "tuple.__getattribute__")) = false := by cases e <;> rfl
  rw [he]
  show wpAny _ _ (bindSpecial (.builtin "tuple.__getattribute__") (.ref p) >>= _) _ _ _
  refine wpAny_bind (wpAny_of_eq (tga_bind _) ?_)
  have F1 : Looks (model Challenge.rw_mq0106_01.row.prog w) h (isInstance (.ref p) (.type "tuple")) true := L0.andThen (pr_sub X)
  refine wpAny_call (codeAny_call_builtin_code (Code.quiet_builtin _ (by decide +kernel)) ?_)
  refine @check_slot (model Challenge.rw_mq0106_01.row.prog w) _ _ _ "tuple.__getattribute__" "tuple" "__getattribute__" (.ref p) [.str "value" t] [] _ tga_kind tga_split F1 (tga_args _ _) ?_
  refine codeAny_builtin tga_entry ?_
  unfold Builtin.«object.__getattribute__»
  show wpAny _ _ (pure ((.ref p, [.str "value" t]) : Value × List Value) >>= _) _ _ _
  refine wpAny_bind (wpAny_pure (wpAny_bind (wpAny_pure (wpAny_bind (L0.at (wpAny_bind (L2.at ?_)))))))
  dsimp only
  unfold bindTo
  show wpAny _ _ (holding [_] (call (.ref 61) _) >>= fun v => ret v) _ _ _
  refine wpAny_bind (wpAny_holding (wpAny_call (get_value X₀ T (by exact S) (by show (Around.under _ _).depth < 900; exact Nat.lt_of_le_of_lt (Nat.le_of_eq (by rfl)) (Nat.lt_of_lt_of_le hroom (by omega))) hp fun h' tk' kp => ?_)))
  dsimp only
  refine wpAny_pure ?_
  show wpAny _ _ (handedOut b) _ _ _
  rw [handedOut_of hr]
  exact wpAny_pure (hq _ _ kp)
end
end
theorem off_I6 : True := by
  w_top off
  k_with_none
  trivial
-- I6
section
open PySem PySem.W PyProof.Rows PySem.Calls
theorem nd_pickT {F T os : List Nat} (h : (F ++ T).Nodup) (hs : os.Sublist T) {is : List Nat} (hi : is.Nodup) (hb : ∀ i ∈ is, i < F.length) : ((is.map fun i => F.getD i 0) ++ os).Nodup := by
  have q := List.nodup_append.mp h
  refine List.nodup_append.mpr ⟨nd_pick q.1 hi hb, q.2.1.sublist hs, fun a ha b hbm => ?_⟩
  obtain ⟨i, hi', rfl⟩ := List.mem_map.mp ha
  refine q.2.2 _ ?_ b (hs.subset hbm)
  rw [List.getD_eq_getElem?_getD, List.getElem?_eq_getElem (hb i hi')]; exact List.getElem_mem _
theorem nd_perm (it lr b1 b2 nt lb x1 x2 t u : Addr) (lms os : List Addr) (nd : (it :: lr :: b1 :: b2 :: nt :: lb :: x1 :: x2 :: t :: u :: (lms ++ os)).Nodup) :
    (nt :: lr :: lb :: b1 :: b2 :: x1 :: x2 :: os).Nodup ∧ ∀ a ∈ lr :: lb :: b1 :: b2 :: x1 :: x2 :: os, a ≠ nt ∧ a ≠ t ∧ a ≠ u := by
  have N : (nt :: t :: u :: lr :: lb :: b1 :: b2 :: x1 :: x2 :: os).Nodup := nd_pickT (F := [it, lr, b1, b2, nt, lb, x1, x2, t, u]) nd (List.sublist_append_right lms os) (is := [4, 8, 9, 1, 5, 2, 3, 6, 7]) (by decide) (by show ∀ i ∈ [4, 8, 9, 1, 5, 2, 3, 6, 7], i < 10; decide)
  have N1 := List.nodup_cons.mp N
  have N2 := List.nodup_cons.mp N1.2
  have N3 := List.nodup_cons.mp N2.2
  exact ⟨N.sublist (.cons₂ _ (.cons _ (.cons _ (List.Sublist.refl _)))), fun a ha => ⟨fun e => N1.1 (e ▸ .tail _ (.tail _ ha)), fun e => N2.1 (e ▸ .tail _ ha), fun e => N3.1 (e ▸ ha)⟩⟩
theorem not3 {a x y z : Nat} (h : a ≠ x ∧ a ≠ y ∧ a ≠ z) : a ∉ [x, y, z] := by simp [h.1, h.2.1, h.2.2]
theorem frz_res {w : World} {it : Addr} {C : IdxC} {oi : Obj} {rs : Array Value} {cr : Nat} {its1 its2 : List BItem} {ep1 ep2 : Nat} {ns : Array Value} {cn : Nat} {os1 os2 : List (Addr × Obj)} {T ps : Array Value} {fz1 fz2 : Addr} {t1 t2 : Tok}
    (nd : Nd (frzLed w it C oi rs cr its1 ep1 its2 ep2 ns cn os1 os2 (frozenDict w fz1 t1) (frozenDict w fz2 t2) T)) :
    Nd ((C.nt, W.listOf ns cn) :: resLed w ⟨C.lb, C.lr, C.b1, C.b2, C.x1, C.x2, C.f1, C.f2, fz1, fz2, t1, t2, its1, its2, ep1, ep2, os1, os2, rs, cr, ns, cn, T, ps⟩) ∧
    ∀ p ∈ resLed w ⟨C.lb, C.lr, C.b1, C.b2, C.x1, C.x2, C.f1, C.f2, fz1, fz2, t1, t2, its1, its2, ep1, ep2, os1, os2, rs, cr, ns, cn, T, ps⟩, p ∈ (frzLed w it C oi rs cr its1 ep1 its2 ep2 ns cn os1 os2 (frozenDict w fz1 t1) (frozenDict w fz2 t2) T).tail ∧ p.1 ∉ [C.nt, 100, 236] := by
  unfold Nd at nd ⊢
  have this := nd_perm it C.lr C.b1 C.b2 C.nt C.lb C.x1 C.x2 100 236 (C.lms.map Prod.fst) ((os1 ++ os2).map Prod.fst) (by rw [← List.map_append]; exact nd)
  refine ⟨this.1, fun p hp => ⟨?_, not3 (this.2 p.1 (List.mem_map_of_mem (f := Prod.fst) hp))⟩⟩
  refine all_cons (P := fun p => p ∈ (frzLed w it C oi rs cr its1 ep1 its2 ep2 ns cn os1 os2 (frozenDict w fz1 t1) (frozenDict w fz2 t2) T).tail) ?_ (all_cons ?_ (all_cons ?_ (all_cons ?_ (all_cons ?_ (all_cons ?_ ?_))))) p hp
  · exact .head _
  · exact .tail _ (.tail _ (.tail _ (.tail _ (.head _))))
  · exact .tail _ (.head _)
  · exact .tail _ (.tail _ (.head _))
  · exact .tail _ (.tail _ (.tail _ (.tail _ (.tail _ (.head _)))))
  · exact .tail _ (.tail _ (.tail _ (.tail _ (.tail _ (.tail _ (.head _))))))
  · exact fun p hp => .tail _ (.tail _ (.tail _ (.tail _ (.tail _ (.tail _ (.tail _ (.tail _ (.tail _ (List.mem_append_right _ hp)))))))))
theorem bitems_list {its : List BItem} {bk : Book} {os : List (Addr × Obj)} (B : BItems its bk os) : ∀ p ∈ os, p.2.cls = .type "list" := by
  induction B with
  | nil => intro p hp; cases hp
  | cons x t a vs n ns hv r ih =>
    intro p hp
    rcases List.mem_cons.mp hp with rfl | hp
    · rfl
    · exact ih p hp
end
theorem off_I1 : True := by
  w_top off
  k_with_none
  trivial
-- I1
section
open PySem PySem.W PyProof.Rows PySem.Calls
theorem kw_I1_1 : True := by
  k_with_none
  k_with "mytree" => ((first | (with_reducible show wpAny _ _ _ _ _ _) | (with_reducible show ite _ _ _)); (fail_if_success (with_reducible show wpAny _ _ (eval (PySem.Expr.ListComp _ _ _ _) _) _ _ _)); (fail_if_success (with_reducible show wpAny _ _ (exec (PySem.Stmt.For _ _ _ _ _) _) _ _ _)); (fail_if_success (with_reducible show wpAny _ _ (exec (PySem.Stmt.While _ _ _ _) _) _ _ _)); (fail_if_success (with_reducible show wpAny _ _ (exec (PySem.Stmt.Try _ _ _ _ _) _) _ _ _)); (fail_if_success (with_reducible show wpAny _ _ (exec (PySem.Stmt.Assign _ (PySem.Expr.ListComp _ _ _ _) _) _) _ _ _)))
  k_with "mytree" => ((first | (with_reducible show wpAny _ _ _ _ _ _) | (with_reducible show ite _ _ _)); (fail_if_success (with_reducible show wpAny _ _ (eval (PySem.Expr.Lambda _ _ _) _) _ _ _)); (fail_if_success (with_reducible show wpAny _ _ (exec (PySem.Stmt.For _ _ _ _ _) _) _ _ _)); (fail_if_success (with_reducible show wpAny _ _ (PySem.call (PySem.Value.ref _) _) _ _ _)); (fail_if_success (with_reducible show wpAny _ _ (PySem.getAttr (PySem.Value.ref _) (PySem.Str.ofString "name") _) _ _ _)); (fail_if_success (with_reducible show wpAny _ _ (PySem.getAttr (PySem.Value.ref _) (PySem.Str.ofString "value") _) _ _ _)); (fail_if_success (with_reducible show wpAny _ _ (PySem.call (PySem.Value.builtin "list.append") _) _ _ _)); (fail_if_success (with_reducible show wpAny _ _ (PySem.subscriptTail _ _ (PySem.Value.ref _) (PySem.Value.str _ _)) _ _ _)))
  k_with "eval Name" => (k_here; k_dflt (first | (refine' nm_local ?z_F ?z_L ?z_v ?_ ?z_a ?z_b; (case z_a => rfl); (case z_b => rfl); (case z_F => k_asm); (case z_L => rfl); (case z_v => first | assumption | rfl); k_whole) | (refine' nm_cell ?z_F ?z_c ?z_o ?z_d ?_ ?z_a ?z_b; (case z_a => rfl); (case z_b => rfl); (case z_F => k_asm); (case z_c => rfl); (case z_o => assumption); (case z_d => assumption); k_whole)))
  k_with "mygo" => (repeat' (first | (k_unfold; (try dsimp only)) | (walk_at "mytree"; walk1) | (dsimp only; walk_at "mytree"; walk1) | fail "no step"))
  trivial
/-- what stands at a turn of the index's loop -/
inductive IdxI (w : World) (s : Shared) (outer : List Env) (g' : Heap) (L' I ln : Addr) (C : IdxC) (zs : List Int) (n : Nat) (s' : Shared) : Prop
  | mk (h : Heap) (tk : Nat) (g : Heap) (m : Str → Option Value) (j : Nat) (oi : Obj) (rs : Array Value) (cr : Nat) (its1 : List BItem) (ep1 : Nat) (its2 : List BItem) (ep2 : Nat) (ns : Array Value) (cn : Nat) (os1 os2 : List (Addr × Obj)) (_ : s' = ⟨h, s.gens, s.drawn, tk, s.os⟩) (_ : KtsTurn (frs outer) g' g) (_ : Fr g L' h m) (_ : News g L' h (idxLed w I C oi rs cr its1 ep1 its2 ep2 ns cn os1 os2)) (_ : Nd (idxLed w I C oi rs cr its1 ep1 its2 ep2 ns cn os1 os2))
    (_ : oi.cls = .type "list_iterator") (_ : oi.data = .fields #[.ref ln, .int j 0]) (_ : j ≤ zs.length) (_ : IdxP m C (zs.take j) rs its1 its2 os1 os2 ns) (_ : n = zs.length - j)
/-- what stands at a turn of the freezing loop -/
inductive FrzI (w : World) (s : Shared) (g : Heap) (L' I : Addr) (C : IdxC) (rs : Array Value) (cr : Nat) (its1 : List BItem) (ep1 : Nat) (its2 : List BItem) (ep2 : Nat) (ns : Array Value) (cn : Nat) (os1 os2 : List (Addr × Obj)) (n : Nat) (s2 : Shared) : Prop
  | a (_ : n = 2) (h : Heap) (tk : Nat) (m : Str → Option Value) (oi : Obj) (_ : s2 = ⟨h, s.gens, s.drawn, tk, s.os⟩) (_ : Fr g L' h m) (_ : m "books" = some (.ref C.lb)) (_ : m "refused" = some (.ref C.lr)) (_ : News g L' h (frzLed w I C oi rs cr its1 ep1 its2 ep2 ns cn os1 os2 emptyDict emptyDict #[])) (_ : oi.cls = .type "list_iterator") (_ : oi.data = .fields #[.ref C.lb, .int 0 0])
  | b (_ : n = 1) (h : Heap) (tk : Nat) (m : Str → Option Value) (oi : Obj) (fz1 : Addr) (t1 : Tok) (c0 : Addr) (l : List (Addr × Obj)) (_ : s2 = ⟨h, s.gens, s.drawn, tk, s.os⟩) (_ : Fr g L' h m) (_ : m "books" = some (.ref C.lb)) (_ : m "refused" = some (.ref C.lr)) (_ : News g L' h (frzLed w I C oi rs cr its1 ep1 its2 ep2 ns cn os1 os2 (frozenDict w fz1 t1) emptyDict #[rawInt 43, rawInt 23, .ref c0])) (_ : oi.cls = .type "list_iterator") (_ : oi.data = .fields #[.ref C.lb, .int 1 0]) (_ : HeldBy g h L' (fun h2 => FrzAt h2 fz1 C.b1 ∧ h2.CodeRec (.ref c0) frzQual) l)
  | c (_ : n = 0) (h : Heap) (tk : Nat) (m : Str → Option Value) (oi : Obj) (fz1 : Addr) (t1 : Tok) (fz2 : Addr) (t2 : Tok) (c0 : Addr) (l : List (Addr × Obj)) (_ : s2 = ⟨h, s.gens, s.drawn, tk, s.os⟩) (_ : Fr g L' h m) (_ : m "books" = some (.ref C.lb)) (_ : m "refused" = some (.ref C.lr)) (_ : News g L' h (frzLed w I C oi rs cr its1 ep1 its2 ep2 ns cn os1 os2 (frozenDict w fz1 t1) (frozenDict w fz2 t2) #[rawInt 43, rawInt 23, .ref c0])) (_ : oi.cls = .type "list_iterator") (_ : oi.data = .fields #[.ref C.lb, .int 2 0]) (_ : HeldBy g h L' (fun h2 => FrzAt h2 fz1 C.b1 ∧ FrzAt h2 fz2 C.b2) l)
section
variable {w : World} {A : Around} {s : Shared} {hb : Heap} {loose : List Str} {mean : ExcName → Option Value} {mg mb : Str → Option Value} {R : Result → Shared → Prop}
variable {outer : List Env}
theorem index_try (X : (hd.heap_1 w.params).In hb) (T : Top topProg loose mean mg mb hb) (S : hb.StaysIn s.heap) (CH : CodeHd hb 104 100) (CL : CodeHd hb 240 236) (hroom : A.depth < 700) (hh : A.handled = none) (hl1 : Str.ofString "TypeError" ∉ loose) (hl2 : Str.ofString "TypeError" ∉ (clssOf topProg loose).map (·.name)) (K : Stk A hb s.heap outer) {ln nt : Addr} {vs : List Value} {c : Nat} {zs : List Int}
    (hln : s.heap.get? ln = some (listOf vs.toArray c)) (hvs : IntsAre vs zs) (hnt : s.heap.get? nt = some (listOf #[] 0)) (hntb : hb.get? nt = none)
    (hP : s.heap.get? 100 = some (tabObj #[])) (hPb : hb.get? 100 = none) (hQ : s.heap.get? 236 = some (tabObj #[])) (hQb : hb.get? 236 = none) (hz : zs.length ≤ 100) (hne : ln ≠ nt)
    (k : ∀ h' tk tb r, IdxOk w zs nt s.heap h' (frs outer) r → s.heap.get? tb = none → h'.get? tb = some { cls := .type "tuple", data := .seq #[.ref r.lb, .ref r.lr] } → R (.ok (.ret (.ref tb))) { s with heap := h', toks := tk }) :
    codeC (model Challenge.rw_mq0106_01.row.prog w) A (.call (.ref 241) ⟨[.ref ln, .ref nt], []⟩) R s := by
  revert X; k_fill; intro X
  refine' enterCQ (binds := [(PySem.Str.ofString "numbers", Value.ref ln), (PySem.Str.ofString "notes", Value.ref nt)]) X T S [(nt, listOf #[] 0), (100, tabObj #[]), (236, tabObj #[])] (by intro q hq; simp only [List.mem_cons, List.not_mem_nil, or_false] at hq; rcases hq with rfl | rfl | rfl; exact ⟨hnt, hntb⟩; exact ⟨hP, hPb⟩; exact ⟨hQ, hQb⟩) ?k6 ?k7 ?k8 ?k9 ?kB ?kD ?_ ?c3 ?c4 ?c5
  case k6 => k_is
  case k7 => k_is
  case k8 => k_room
  case k9 => exact BindsTo.of_eq rfl
  case kB => exact rfl
  case kD => decide +kernel
  case c3 => exact rfl
  case c4 => exact rfl
  case c5 => exact rfl
  intro g' L' h' tk' cells' F' N' Y' X' T' S' hg' hL' hl'
  k_cells Y'
  (try simp only [List.cons_append, List.nil_append] at N')
  (try dsimp only)
  refine c_execs_cons (c_any ?_)
  k_fold
  have XK : ∀ g, hb.StaysIn g → (hd.heap_1 w.params).In g := fun g S => X.keeps S
  have TK : ∀ g, hb.StaysIn g → Top topProg loose mean mg mb g := fun g S => T.keeps S
  clear X S T
  walk_at "mygo"
  rename_i oS dS
  have hn1 : nt ≠ 100 := by intro e; rw [e, hP] at hnt; simp at hnt
  have hn2 : nt ≠ 236 := by intro e; rw [e, hQ] at hnt; simp at hnt
  have v1 : @LT.lt Nat _ (nt) (L') := hl' _ (.head _)
  have v2 : @LT.lt Nat _ (100) (L') := hl' _ (.tail _ (.head _))
  have v3 : @LT.lt Nat _ (236) (L') := hl' _ (.tail _ (.tail _ (.head _)))
  have v4 : @Ne Nat nt 100 := hn1
  have v5 : @Ne Nat nt 236 := hn2
  have CL' : CodeHd g' 240 236 := CL.keeps S'
  refine kla_eval rfl ?_
  refine' kla_nest (ps := #[]) F' N' T' CL' rfl (clos := [(Str.ofString "notes", L' + 1)]) ?U ?tt ?am ?cl ?_
  case tt => exact True.intro
  case am => rfl
  case cl => exact rfl
  case U => k_updF
  intro f1 c1 oc1 vs1 t1 ct1 h1 tk1 F1 N1 d1a d1b l1a l1b
  walk_at "mygo"
  refine ⟨X'.keeps F1.keep, wpAny_call ?_⟩
  refine fd_make (X'.keeps F1.keep) (News.get N1 (.head _)) rfl fun h2 hd2 hb2 hk2 hs2 => ?_
  have z1 : @LT.lt Nat _ (f1) (h1.objs.size) := Heap.lt_size (News.get N1 (.head _))
  have F2 := fr_kp0 F1 (Kp.of_stays hk2)
  have N2 := news_new F1 (news_new F1 (news_kp0 N1 (Kp.of_stays hk2)) (Heap.get?_none_of_le (Nat.le_refl _)) hd2) (Heap.get?_none_of_le (Nat.le_succ _)) hb2
  have w1 : @LT.lt Nat _ (236) (c1) := l1a (236, tabObj #[]) (.tail _ (.tail _ (.tail _ (.head _))))
  have w2 : @LT.lt Nat _ (100) (c1) := l1a (100, tabObj #[]) (.tail _ (.tail _ (.head _)))
  have w3 : @LT.lt Nat _ (nt) (c1) := l1a (nt, W.listOf #[] 0) (.tail _ (.head _))
  have w4 : @LT.lt Nat _ (L' + 1) (c1) := l1a (L' + 1, oS) (.head _)
  have w7 : @LT.lt Nat _ (c1) (f1) := l1b
  generalize hdx : h1.objs.size = x1 at N2 hd2 hb2 z1 hs2
  have hk2' : ∀ a o, h1.get? a = some o → h2.get? a = some o := hk2
  clear F' N' hk2 hd2 hb2 N1
  have w5 : @LT.lt Nat _ (x1) (x1.succ) := Nat.lt_succ_self _
  generalize hb1 : x1.succ = b1 at N2 w5
  walk_at "mygo"
  rename Fr g' L' _ _ => F3
  rename News g' L' _ _ => N3
  refine ⟨X'.keeps F3.keep, wpAny_call ?_⟩
  refine fd_make (X'.keeps F3.keep) (News.get N3 (.head _)) rfl fun h4 hd4 hb4 hk4 hs4 => ?_
  have z2 := Heap.lt_size (News.get N3 (.head _))
  have F4 := fr_kp0 F3 (Kp.of_stays hk4)
  have N4 := news_new F3 (news_new F3 (news_kp0 N3 (Kp.of_stays hk4)) (Heap.get?_none_of_le (Nat.le_refl _)) hd4) (Heap.get?_none_of_le (Nat.le_succ _)) hb4
  generalize hdx2 : Array.size _ = x2 at N4 hd4 hb4 z2 hs4
  clear hk4 hd4 hb4 N3
  have w6 : @LT.lt Nat _ (x2) (x2.succ) := Nat.lt_succ_self _
  generalize hb2 : x2.succ = b2 at N4 w6
  walk_at "mygo"
  rename Fr g' L' _ _ => F5
  rename News g' L' _ _ => N5
  refine c_execs_cons (c_any ?_)
  walk_at "mygo"
  refine c_execs_cons (c_any ?_)
  walk_at "mygo"
  refine c_execs_cons (c_For ?_)
  walk_at "mygo"
  rename_i f2 c2 oc2 vs2 t2 ct2 h3 tk3 d2a d2b l2a l2b lb h6 l3 h7 lr h8 l4 h9 h10 F6 N6
  subst hb1 hb2
  have e1 := hg' ln _ (by
    simp only [List.map_cons, List.map_nil, List.mem_cons, List.not_mem_nil, or_false, not_or]
    refine ⟨hne, ?_, ?_⟩
    · intro e; rw [e, hP] at hln; simp at hln
    · intro e; rw [e, hQ] at hln; simp at hln) hln
  have O : Outs g' outer := K.outs.keepsD (fun b hb o e es ep hd => by
    simp only [List.map_cons, List.map_nil, List.mem_cons, List.not_mem_nil, or_false] at hb
    rcases hb with rfl | rfl | rfl
    · rw [hnt] at e; cases e; cases hd
    · rw [hP] at e; cases e; cases hd
    · rw [hQ] at e; cases e; cases hd) hg'
  refine wpAny_pyIter_list (l := ln) (items := vs.toArray) (list_base F6 e1) ?_
  have q1 : @LT.lt Nat _ lr h10.objs.size := Heap.lt_size (N6 _ (.head _)).1
  have F7 := Fr.pushS F6 { cls := .type "list_iterator", data := .fields #[.ref ln, .int 0 0] }
  obtain ⟨C, hCnt, hCb1, hCb2, hClr, hClb, N7, nd, hLm⟩ := idx_init (w := w) (News.push F6 N6 { cls := .type "list_iterator", data := .fields #[.ref ln, .int 0 0] }) ⟨_, _, _, _, _, _, _, _, _, rfl, d1a, d1b⟩ ⟨_, _, _, _, _, _, _, _, _, rfl, d2a, d2b⟩ dS (by omega) (by omega) (by omega) (by omega) (by omega) (by omega) (by omega) (by omega) (by omega) (by omega) (by omega) (by omega) (by omega) (by omega) (by omega) q1
  have hs1 : (C.b1 == sysModules) = false := by rw [hCb1]; exact ne_sysModules (b := x1 + 1) (Nat.lt_succ_of_lt (Nat.lt_trans w1 (Nat.lt_trans w7 z1)))
  have hs2' : (C.b2 == sysModules) = false := by rw [hCb2]; exact ne_sysModules (b := x2 + 1) (Nat.lt_succ_of_lt (Nat.lt_trans l2a.2.2.2.2.2.2.2 (Nat.lt_trans l2b z2)))
  refine cc_forLoop (IdxI w s outer g' L' h10.objs.size ln C zs) ?turn zs.length ?init
  case init => exact ⟨_, _, g', _, 0, _, _, _, _, _, _, _, _, _, _, _, rfl, .refl, F7, N7, nd, rfl, rfl, Nat.zero_le _, ⟨by rw [hClb]; rfl, by rw [hClr]; rfl, ⟨_, rfl⟩, .nil, .nil, .nil, rfl⟩, rfl⟩
  case turn =>
    clear F6 N6 F7 N7 nd
    rintro n s₁ ⟨h, tk, g, m, j, oi, rs, cr, its1, ep1, its2, ep2, ns, cn, os1, os2, rfl, KT, F, N, nd, hoc, hod, hk, Z, hn⟩
    have Sg : hb.StaysIn g := stays_turn S' KT K.clear
    have Xg := XK g Sg
    have Tg := TK g Sg
    have e1g := KT.other _ _ e1 (O.notList e1)
    clear X' T'
    by_cases ck : j < zs.length
    · obtain ⟨t, hx⟩ := ints_at hvs ck
      generalize hz' : zs.getD j 0 = z at hx
      have hx' : vs.toArray[j]? = some (.int z t) := by simpa using hx
      refine wpAny_pyNext_list_item (i := j) ⟨oi, News.get N (.head _), hoc, hod⟩ (list_base F e1g) hx' fun h2 hit2 hs2 => ?_
      obtain ⟨oi2, ho2, hoc2, hod2⟩ := hit2
      have F2 := Fr.put F N (.head _) (kp_same hs2)
      have N2 := News.put (pre := []) N nd (kp_same hs2) ho2
      have nd2 := Nd.swap (pre := []) (o' := oi2) nd
      clear F N
      dsimp only
      walk_at "mygo"
      rename Fr g L' _ _ => F3
      rename News g L' _ _ => N3
      refine c_execs_cons (c_Try (c_execs_cons (c_Assign_Name (c_MethodCall ?_))))
      walk_at "mygo"
      rename Fr g L' _ _ => F4
      rename News g L' _ _ => N4
      refine c_callPlain (P := MethP (hd.heap_1 w.params) _ 197 (.ref 203)) (keeps_M ?kk) ?_
      case kk => k_is
      walk_at "mygo"
      refine ⟨Xg.keeps F4.keep, wpAny_call (text_spec Xg Tg (by exact F4.keep) (by k_room) fun h5 tk5 t5 kp5 => ?_)⟩
      have F5 := fr_kp0 F4 kp5
      have N5 := news_kp0 N4 kp5
      clear F4 N4
      walk_at "mygo"
      refine ⟨⟨News.get N5 (.head _), Xg.keeps F5.keep⟩, c_call (cc_bound (News.get N5 (.head _)) ?_)⟩
      cases hbad : isBad z with
      | false =>
        refine parse_ok Xg Tg (by exact F5.keep) (by k_room) (by first | exact hh | rfl) (len_text _) (parts_ok hbad) fun h6 tk6 p dp ta tb kp6 fp6 hp6 => ?_
        have F6 := fr_kp0 F5 kp6
        have ndp := List.nodup_cons.mpr ⟨fresh_ne (news_sub N5 fun q hq => .tail _ hq) fp6, nd2⟩
        have N6 := news_new F5 (news_kp0 (news_sub N5 fun q hq => .tail _ hq) kp6) fp6 hp6
        clear F5 N5
        dsimp only
        walk_at "mygo"
        rename Fr g L' _ _ => F7
        rename News g L' _ _ => N7
        refine c_pure ?_
        refine c_pure ?_
        refine c_any ?_
        have mB := Z.mB
        have mR := Z.mR
        obtain ⟨tp, mP⟩ := Z.mP
        walk_at "mygo"
        have N7' : News g L' _ ((p, pairObj dp (.str (nameOf z) ta) (.str (valOf z) tb)) :: idxLed w h10.objs.size C oi2 rs cr its1 ep1 its2 ep2 ns cn os1 os2) := N7
        clear N7
        have zl1 : (takenOf (zs.take j)).length ≤ 100 := Nat.le_trans (List.length_filter_le _ _) (by rw [List.length_take]; omega)
        have z1' : its1.length ≤ 100 := by rw [Z.B1.len.1]; exact Nat.le_trans bookFrom_len (by simpa using zl1)
        have z2' : its2.length ≤ 100 := by rw [Z.B2.len.1]; exact Nat.le_trans bookFrom_len (by simpa using zl1)
        have zn := Z.hs
        refine item_N N7' (vs := [.ref C.b1, .ref C.b2]) (n := 0) (.tail _ (.tail _ (.tail _ (.tail _ (.tail _ (.tail _ (.head _))))))) (by decide) (by decide) rfl ?_
        walk_at "mygo"
        refine pair_name Xg Tg (by exact F7.keep) (by k_room) (News.get N7' (.head _)) rfl fun h8 tk8 kp8 => ?_
        have F8 := fr_kp0 F7 kp8
        have N8 := news_kp0 N7' kp8
        clear F7 N7'
        walk_at "mygo"
        have ndp' : Nd ([(p, pairObj dp (.str (nameOf z) ta) (.str (valOf z) tb)), (h10.objs.size, oi2), (C.lr, W.listOf rs cr)] ++ (C.b1, bookObj C.x1 C.f1 (esOf w its1) ep1) :: ([(C.b2, bookObj C.x2 C.f2 (esOf w its2) ep2)] ++ (C.nt, W.listOf ns cn) :: (idxTail C ++ (os1 ++ os2)))) := ndp
        have N8b : News g L' h8 ([(p, pairObj dp (.str (nameOf z) ta) (.str (valOf z) tb)), (h10.objs.size, oi2), (C.lr, W.listOf rs cr)] ++ (C.b1, bookObj C.x1 C.f1 (esOf w its1) ep1) :: ([(C.b2, bookObj C.x2 C.f2 (esOf w its2) ep2)] ++ (C.nt, W.listOf ns cn) :: (idxTail C ++ (os1 ++ os2)))) := N8
        clear N8 ndp
        have hlam8 := hLm h8 fun q hq => (N8b q (idx_lms hq)).1
        refine' idx_sub (L := L') (g := g) (p := ((takenOf (zs.take j)).length : Int)) (pre := [(p, pairObj dp (.str (nameOf z) ta) (.str (valOf z) tb)), (h10.objs.size, oi2), (C.lr, W.listOf rs cr)]) (mid := [(C.b2, bookObj C.x2 C.f2 (esOf w its2) ep2)]) (P := idxTail C) (os := os1) (R := os2) Xg Tg ?r1 ?r2 F8 N8b ndp' hs1 (.tail _ (.head _)) hlam8.1 ?r3 ?r4 Z.B1 ?_ ?hs
        case r1 => k_room
        case r2 => first | exact hh | rfl
        case r3 => omega
        case r4 => omega
        case hs => with_unfolding_all rfl
        intro h9 tk9 a vs9 n9 its1' ep1' ns9 cn9 F9 N9 hsz9 hl9 hle9 hfin9
        clear F8 N8b ndp'
        walk_at "mygo"
        refine append_at (News.get N9 (.head _)) (fun hA hsA eA => ?_) ?szA
        case szA => exact list_fits zl1 hsz9
        have FA := Fr.put F9 N9 (.head _) (kp_same hsA)
        obtain ⟨os1', NA, ndA, B1'⟩ := hfin9 hA _ _ (kp_same hsA) (by rw [eA, List.push_toArray])
        clear F9 N9 hfin9
        walk_at "mygo"
        refine item_N NA (vs := [.ref C.b1, .ref C.b2]) (n := 0) idx_lb (by decide) (by decide) rfl ?_
        walk_at "mygo"
        refine pair_value Xg Tg (by exact FA.keep) (by k_room) (News.get NA (.head _)) rfl fun hB tkB kpB => ?_
        have FB := fr_kp0 FA kpB
        have NB := news_kp0 NA kpB
        clear FA NA
        walk_at "mygo"
        have NB' : News g L' hB ([(p, pairObj dp (.str (nameOf z) ta) (.str (valOf z) tb)), (h10.objs.size, oi2), (C.lr, W.listOf rs cr), (C.b1, bookObj C.x1 C.f1 (esOf w its1') ep1')] ++ (C.b2, bookObj C.x2 C.f2 (esOf w its2) ep2) :: ([] ++ (C.nt, W.listOf ns9 cn9) :: ((idxTail C ++ os1') ++ (os2 ++ [])))) := by
          rw [List.append_nil os2, List.append_assoc (idxTail C) os1' os2]; exact NB
        have ndB' : Nd ([(p, pairObj dp (.str (nameOf z) ta) (.str (valOf z) tb)), (h10.objs.size, oi2), (C.lr, W.listOf rs cr), (C.b1, bookObj C.x1 C.f1 (esOf w its1') ep1')] ++ (C.b2, bookObj C.x2 C.f2 (esOf w its2) ep2) :: ([] ++ (C.nt, W.listOf ns9 cn9) :: ((idxTail C ++ os1') ++ (os2 ++ [])))) := by
          rw [List.append_nil os2, List.append_assoc (idxTail C) os1' os2]; exact ndA
        have hlamB := hLm hB fun q hq => (NB q (idx_lms hq)).1
        clear NB ndA
        refine' idx_sub (L := L') (g := g) (p := ((takenOf (zs.take j)).length : Int)) (pre := [(p, pairObj dp (.str (nameOf z) ta) (.str (valOf z) tb)), (h10.objs.size, oi2), (C.lr, W.listOf rs cr), (C.b1, bookObj C.x1 C.f1 (esOf w its1') ep1')]) (mid := []) (P := idxTail C ++ os1') (os := os2) (R := []) Xg Tg ?r1 ?r2 FB NB' ndB' hs2' idx_x.2 hlamB.2 ?r3 ?r4 Z.B2 ?_ ?hs
        case r1 => k_room
        case r2 => first | exact hh | rfl
        case r3 => omega
        case r4 => omega
        case hs => with_unfolding_all rfl
        intro hC tkC aC vsC nC its2' ep2' nsC cnC FC NC hszC hlC hleC hfinC
        clear FB NB' ndB'
        walk_at "mygo"
        refine append_at (News.get NC (.head _)) (fun hD hsD eD => ?_) ?szA
        case szA => exact list_fits zl1 hszC
        have FD := Fr.put FC NC (.head _) (kp_same hsD)
        obtain ⟨os2', ND, ndD, B2'⟩ := hfinC hD _ _ (kp_same hsD) (by rw [eD, List.push_toArray])
        clear FC NC hfinC
        rw [List.append_nil os2', List.append_assoc (idxTail C) os1' os2'] at ND ndD
        have ndE := (List.nodup_cons.mp ndD).2
        walk_at "mygo"
        refine ld_any FD rfl (by assumption) ?_
        walk_at "mygo"
        rename Fr g L' _ _ => FE
        rename News g L' _ _ => NE
        obtain ⟨eT, eB⟩ := taken_ok ck hz' hbad
        have eL : ((takenOf (zs.take (j + 1))).length : Int) = (takenOf (zs.take j)).length + 1 := by rw [eT]; simp
        refine ⟨zs.length - (j + 1), by omega, _, _, g, _, j + 1, oi2, rs, cr, its1', _, its2', _, nsC, _, os1', os2', rfl, KT, FE, fun q hq => NE q (.tail _ hq), ndE, hoc2, hod2, ck, ⟨mB, mR, ⟨_, by rw [eL]; rfl⟩, by rw [eB]; exact Z.ir, by rw [eT, book_ok]; exact B1', by rw [eT, book_ok]; exact B2', by omega⟩, rfl⟩
      | true =>
        refine parse_bad (hb := hb) (outer := envOfC (Str.ofString "_law_index") _ L' 241 (.ref 240) :: outer) (XK hb fun _ _ e => e) (TK hb fun _ _ e => e) (fun a o e => F5.keep _ _ (Sg a o e)) (by k_room) (by first | exact hh | rfl) (Stk.push ⟨K.stack, O.turn KT, K.clear⟩ F5 Sg rfl (by intro q; cases q)) (len_text _) (parts_bad hbad) fun h6 tk6 e oe TT oT kpU fe fT hTe he hT xe xt => ?_
        obtain ⟨g2, KT2, F6, NN⟩ := turn_call (L := L') (outer := outer) (O.turn KT) F5 (by exact kpU)
        have N6 := NN (news_sub N5 fun q hq => .tail _ hq)
        have O2 : Outs g2 outer := (O.turn KT).turn KT2
        have gn : ∀ a, h5.get? a = none → g2.get? a = none := fun a q => KT2.none_ _ (by
          cases z : g.get? a with
          | none => rfl
          | some o => rw [F5.keep _ _ z] at q; cases q)
        have hL5 : ∀ a, h5.get? a = none → a ≠ L' := fun a q z => by
          obtain ⟨oL, es, ep, hL, _⟩ := F5.ns
          rw [z, hL] at q; cases q
        have n5 : ∀ a, h5.get? a = none → ∀ p ∈ idxLed w h10.objs.size C oi2 rs cr its1 ep1 its2 ep2 ns cn os1 os2, p.1 ≠ a := fun a q p hp z => by
          have := (N5 p (.tail _ hp)).1
          rw [z, q] at this; cases this
        have N7 : News g2 L' h6 ((e, oe) :: (TT, oT) :: idxLed w h10.objs.size C oi2 rs cr its1 ep1 its2 ep2 ns cn os1 os2) := fun q hq => by
          rcases List.mem_cons.mp hq with rfl | hq
          · exact ⟨he, hL5 _ fe, gn _ fe⟩
          · rcases List.mem_cons.mp hq with rfl | hq
            · exact ⟨hT, hL5 _ fT, gn _ fT⟩
            · exact N6 q hq
        dsimp only
        refine note_next (outer := outer) (Around.frames_deeper K.stack) rfl (by intro q; cases q) O2 F6 N7 ⟨hTe.symm, allNe_of (n5 _ fT)⟩ (allNe_of (n5 _ fe)) xe xt rfl fun h8 g3 T3 oe3 oT3 KT3 F8 N8 ne8 xe8 xt8 => ?_
        have KTa := (KT.trans KT2).trans KT3
        have S3 : hb.StaysIn g3 := stays_turn S' KTa K.clear
        have X3 := XK g3 S3
        have TT3 := TK g3 S3
        clear F5 N5 F6 N6 N7 NN
        refine caught_any F8 N8 ne8 xe8 xt8 (by k_asm) PyProof.Rows.Boot.«TypeError» PySem.F.isExc_TypeError PySem.F.notTuple_TypeError (by rw [isSubtype_type]; kernel_rfl) rfl rfl ?_ (h2 := hl1) (h4c := hl2)
        intro h9 oT9 F9 N9 xt9
        have N9' : News g3 L' h9 (idxLed w h10.objs.size C oi2 rs cr its1 ep1 its2 ep2 ns cn os1 os2) := news_sub N9 fun q hq => .tail _ (.tail _ hq)
        clear F8 N8 N9
        have mB := Z.mB
        have mR := Z.mR
        obtain ⟨tp, mP⟩ := Z.mP
        walk_at "mygo"
        have zr : rs.size ≤ sizeLine := by
          have e1 := ints_len Z.ir
          have e2 : ((zs.take j).filter isBad).length ≤ 100 := Nat.le_trans (List.length_filter_le _ _) (by rw [List.length_take]; omega)
          rw [Array.length_toList] at e1
          rw [sizeLine_eq]; omega
        refine append_at (hsz := zr) (News.get N9' (.tail _ (.head _))) (fun hA hsA eA => ?_)
        have FA := Fr.put F9 N9' (.tail _ (.head _)) (kp_same hsA)
        have NA := News.put (pre := [(h10.objs.size, oi2)]) N9' nd2 (kp_same hsA) eA
        have ndA := Nd.swap (pre := [(h10.objs.size, oi2)]) (o' := W.listOf (rs.push (.int z t)) (cr + 1)) nd2
        clear F9 N9'
        obtain ⟨eT, eB⟩ := taken_bad ck hz' hbad
        walk_at "mygo"
        refine ⟨zs.length - (j + 1), by omega, _, _, g3, _, j + 1, oi2, rs.push (.int z t), cr + 1, its1, _, its2, _, ns, _, os1, os2, rfl, KTa, FA, NA, ndA, hoc2, hod2, ck, ⟨mB, mR, ⟨_, by rw [eT]; exact mP⟩, by rw [eB]; simpa using ints_snoc Z.ir, by rw [eT]; exact Z.B1, by rw [eT]; exact Z.B2, Z.hs⟩, rfl⟩
    ·
      obtain rfl : j = zs.length := by omega
      refine wpAny_pyNext_list_end (by first | exact hh | rfl) ⟨oi, News.get N (.head _), hoc, hod⟩ (list_base F e1g) (by simp [ints_len hvs]) fun h2 hs2 => ?_
      have hs2' : Kp [h10.objs.size] h h2 := fun b o n e => hs2 b o (by simpa using n) e
      have F2 := Fr.put F N (.head _) hs2'
      have N2 : News g L' h2 ((C.lr, W.listOf rs cr) :: (C.b1, bookObj C.x1 C.f1 (esOf w its1) ep1) :: (C.b2, bookObj C.x2 C.f2 (esOf w its2) ep2) :: (C.nt, W.listOf ns cn) :: (idxTail C ++ (os1 ++ os2))) :=
        news_kp (news_sub N fun q hq => .tail _ hq) hs2' fun q hq => by
          have := Nd.apart (pre := []) nd q (.inr hq)
          simpa using this
      have nd2 := (List.nodup_cons.mp nd).2
      have mB := Z.mB
      have mR := Z.mR
      rw [List.take_length] at Z
      have CHg : CodeHd g 104 100 := CH.keeps Sg
      clear F N nd hs2 hs2'
      dsimp only
      refine c_pure ?_
      refine c_any ?_
      walk_at "mygo"
      refine wpAny_For ?_
      walk_at "mygo"
      refine wpAny_pyIter_list (l := C.lb) (items := [Value.ref C.b1, Value.ref C.b2].toArray) ⟨_, News.get N2 idx_lb2, rfl, 0, rfl⟩ ?_
      have F3 := Fr.pushS F2 { cls := .type "list_iterator", data := .fields #[.ref C.lb, .int 0 0] }
      have N3 := News.push F2 N2 { cls := .type "list_iterator", data := .fields #[.ref C.lb, .int 0 0] }
      have nd3 : Nd ((h2.objs.size, { cls := .type "list_iterator", data := .fields #[.ref C.lb, .int 0 0] }) :: (C.lr, W.listOf rs cr) :: (C.b1, bookObj C.x1 C.f1 (esOf w its1) ep1) :: (C.b2, bookObj C.x2 C.f2 (esOf w its2) ep2) :: (C.nt, W.listOf ns cn) :: (idxTail C ++ (os1 ++ os2))) :=
        List.nodup_cons.mpr ⟨fresh_ne N2 (Heap.get?_none_of_le (Nat.le_refl _)), nd2⟩
      generalize hI : h2.objs.size = I at N3 nd3
      refine codeAny_forLoop (FrzI w s g L' I C rs cr its1 ep1 its2 ep2 ns cn os1 os2) ?turn 2 (.a rfl _ _ _ _ rfl F3 mB mR N3 rfl rfl)
      clear F3 N3 F2 N2 mB mR
      rintro n s2 (⟨rfl, h, tk, m, oi, rfl, F, mB, mR, N, hoc, hod⟩ | ⟨rfl, h, tk, m, oi, fz1, t1, c0, l, rfl, F, mB, mR, N, hoc, hod, H⟩ | ⟨rfl, h, tk, m, oi, fz1, t1, fz2, t2, c0, l, rfl, F, mB, mR, N, hoc, hod, H⟩)
      · refine wpAny_pyNext_list_item (x := .ref C.b1) (i := 0) (items := [Value.ref C.b1, Value.ref C.b2].toArray) ⟨_, News.get N (.head _), hoc, hod⟩ ⟨_, News.get N frz_lb, rfl, 0, rfl⟩ rfl fun h4 hit4 hs4 => ?_
        obtain ⟨oi4, ho4, hoc4, hod4⟩ := hit4
        have F4 := Fr.put F N (.head _) (kp_same hs4)
        have N4 : News g L' h4 (frzLed w I C oi4 rs cr its1 ep1 its2 ep2 ns cn os1 os2 emptyDict emptyDict #[]) := News.put (pre := []) N (Nd.swap (pre := []) nd3) (kp_same hs4) ho4
        have nd4 : Nd (frzLed w I C oi4 rs cr its1 ep1 its2 ep2 ns cn os1 os2 emptyDict emptyDict #[]) := Nd.swap (pre := []) nd3
        clear F N
        dsimp only
        walk_at "mygo"
        rename Fr g L' _ _ => F5
        rename News g L' _ _ => N5
        refine fz_method (Xg.keeps F5.keep) (News.get N5 (.tail _ (.tail _ (.head _)))) (News.get N5 (.tail _ (.tail _ (.tail _ (.tail _ (.tail _ (.tail _ (.head _)))))))) ?_
        walk_at "mygo"
        have m1 := N5 _ (.tail _ (.tail _ (.tail _ (.tail _ (.tail _ (.tail _ (.head _)))))))
        have m2 := N5 _ (.tail _ (.tail _ (.tail _ (.tail _ (.tail _ (.tail _ (.tail _ (.tail _ (.head _)))))))))
        show wpAny _ _ (call (.ref 105) [.ref C.b1]) _ _ _
        refine wpAny_call (freeze_spec (hb := g) Xg Tg (by exact F5.keep) CHg (by k_room) (News.get N5 (.tail _ (.tail _ (.head _)))) m1.1 m1.2.2 m2.1 m2.2.2 fun h6 tk6 fz c' tk' kp e100 rc e1 fa => ?_)
        have F6 := fr_kp F5 kp (fun d hd => by
          simp only [List.mem_cons, List.not_mem_nil, or_false] at hd
          rcases hd with rfl | rfl
          · exact ⟨m2.2.2, m2.2.1⟩
          · exact ⟨m1.2.2, m1.2.1⟩)
        have N6 := News.put2 (pre := [_, _, _, _, _, _]) (mid := [_]) N5 nd4 kp e1 e100
        obtain ⟨l1, H1⟩ := held_frz F6 fa
        obtain ⟨l2, H2⟩ := held_rec F6 rc
        clear F5 N5
        dsimp only
        walk_at "mygo"
        exact ⟨1, by omega, .b rfl h6 _ _ oi4 fz tk' c' _ rfl F6 mB mR N6 hoc4 hod4 (H1.and H2)⟩
      · refine wpAny_pyNext_list_item (x := .ref C.b2) (i := 1) (items := [Value.ref C.b1, Value.ref C.b2].toArray) ⟨_, News.get N (.head _), hoc, hod⟩ ⟨_, News.get N frz_lb, rfl, 0, rfl⟩ rfl fun h4 hit4 hs4 => ?_
        obtain ⟨oi4, ho4, hoc4, hod4⟩ := hit4
        have F4 := Fr.put F N (.head _) (kp_same hs4)
        have N4 : News g L' h4 (frzLed w I C oi4 rs cr its1 ep1 its2 ep2 ns cn os1 os2 (frozenDict w fz1 t1) emptyDict #[rawInt 43, rawInt 23, .ref c0]) := News.put (pre := []) N (nd_frz nd3) (kp_same hs4) ho4
        have nd4 : Nd (frzLed w I C oi4 rs cr its1 ep1 its2 ep2 ns cn os1 os2 (frozenDict w fz1 t1) emptyDict #[rawInt 43, rawInt 23, .ref c0]) := nd_frz nd3
        have H4 := H.kp (kp_same hs4) (fun d hd o e => by
          rw [List.mem_singleton.mp hd, News.get N (.head _)] at e; cases e
          exact not_named_rec hod rfl)
        have N45 := news_app N4 H4.1
        clear F N N4
        dsimp only
        walk_at "mygo"
        rename Fr g L' _ _ => F5
        rename News g L' _ _ => N5
        refine fz_method (Xg.keeps F5.keep) (News.get N5 (.tail _ (.tail _ (.tail _ (.head _))))) (News.get N5 (.tail _ (.tail _ (.tail _ (.tail _ (.tail _ (.tail _ (.tail _ (.head _))))))))) ?_
        walk_at "mygo"
        have m1 := N5 _ (.tail _ (.tail _ (.tail _ (.tail _ (.tail _ (.tail _ (.tail _ (.head _))))))))
        have m2 := N5 _ (.tail _ (.tail _ (.tail _ (.tail _ (.tail _ (.tail _ (.tail _ (.tail _ (.head _)))))))))
        have H5 := H4.at (news_sub N5 fun q hq => List.mem_append_right _ hq)
        have N5' := news_sub N5 (news' := frzLed w I C oi4 rs cr its1 ep1 its2 ep2 ns cn os1 os2 (frozenDict w fz1 t1) emptyDict #[rawInt 43, rawInt 23, .ref c0]) fun q hq => List.mem_append_left _ hq
        clear N5
        show wpAny _ _ (call (.ref 105) [.ref C.b2]) _ _ _
        refine wpAny_call (freeze_again (hb := g) Xg Tg (by exact F5.keep) CHg (by k_room) (News.get N5' (.tail _ (.tail _ (.tail _ (.head _))))) m1.1 m1.2.2 m2.1 m2.2.2 (H5.2.2 _ F5.keep fun p hp => (H5.1 p hp).1).2 fun h6 tk6 fz c' tk' kp e100 rc e1 fa => ?_)
        have F6 := fr_kp F5 kp (fun d hd => by
          simp only [List.mem_cons, List.not_mem_nil, or_false] at hd
          rcases hd with rfl | rfl
          · exact ⟨m2.2.2, m2.2.1⟩
          · exact ⟨m1.2.2, m1.2.1⟩)
        have N6 := News.put2 (pre := [_, _, _, _, _, _, _]) (mid := []) N5' nd4 kp e1 e100
        have H6 := H5.kp kp (fun d hd o e => by
          simp only [List.mem_cons, List.not_mem_nil, or_false] at hd
          rcases hd with rfl | rfl
          · have := m2.1; rw [e] at this; cases this; exact not_named_rec rfl rfl
          · have := m1.1; rw [e] at this; cases this; exact not_named_dict rfl)
        obtain ⟨l1, H1⟩ := held_frz F6 fa
        clear F5 N5'
        dsimp only
        walk_at "mygo"
        exact ⟨0, by omega, .c rfl h6 _ _ oi4 fz1 t1 fz tk' c' _ rfl F6 mB mR N6 hoc4 hod4 ((H6.and H1).mono fun h2 k => ⟨k.1.1, k.2⟩)⟩
      · refine wpAny_pyNext_list_end (items := [Value.ref C.b1, Value.ref C.b2].toArray) (i := 2) (by first | exact hh | rfl) ⟨_, News.get N (.head _), hoc, hod⟩ ⟨_, News.get N frz_lb, rfl, 0, rfl⟩ rfl fun h4 hs4 => ?_
        have kp4 : Kp [I] h h4 := fun b o n e => hs4 b o (by simpa using n) e
        have F4 := Fr.put F N (.head _) kp4
        have nd4 := nd_frz (o1' := frozenDict w fz1 t1) (o2' := frozenDict w fz2 t2) (T' := #[rawInt 43, rawInt 23, .ref c0]) (oi' := oi) nd3
        have N4 := news_kp (news_sub N fun q hq => .tail _ hq) kp4 fun q hq => by
          have := Nd.apart (pre := []) nd4 q (.inr hq)
          simpa using this
        have H4 := H.kp kp4 (fun d hd o e => by
          rw [List.mem_singleton.mp hd, News.get N (.head _)] at e; cases e
          exact not_named_rec hod rfl)
        have N45 := news_app N4 H4.1
        clear F N N4
        dsimp only
        walk_at "mygo"
        rename Fr g L' _ _ => FZ
        rename News g L' _ _ => NZ
        have NZl : News g L' _ ((C.lr, W.listOf rs cr) :: (C.b1, bookObj C.x1 C.f1 (esOf w its1) ep1) :: (C.b2, bookObj C.x2 C.f2 (esOf w its2) ep2) :: (C.nt, W.listOf ns cn) :: (C.lb, W.listOf #[.ref C.b1, .ref C.b2] 0) :: (C.x1, frozenDict w fz1 t1) :: (C.x2, frozenDict w fz2 t2) :: (100, tabObj #[rawInt 43, rawInt 23, .ref c0]) :: (236, tabObj C.tabX) :: (C.lms ++ (os1 ++ os2))) := news_sub NZ fun q hq => .tail _ (List.mem_append_left _ hq)
        have NZh := H4.at (news_sub NZ fun q hq => .tail _ (List.mem_append_right _ hq))
        have NZt := NZ _ (.head _)
        obtain ⟨ndR, mR'⟩ := frz_res (ps := C.tabX) nd4
        have hold : ∀ a o, a ∉ [nt, 100, 236] → s.heap.get? a = some o → (a ∉ frs outer → g.get? a = some o) ∧ ∃ sl, g.get? a = some { o with slots := sl } := fun a o ha e => by
          have e' := hg' a o ha e
          exact ⟨fun n => KT.other _ _ e' n, KT.up e'⟩
        have key : ∀ a, g.get? a = none → a ∉ [nt, 100, 236] → s.heap.get? a = none := fun a q ha => by
          cases z : s.heap.get? a with
          | none => rfl
          | some o =>
            obtain ⟨sl, y⟩ := (hold a o ha z).2
            rw [q] at y; cases y
        have frzZ := NZh.2.2 _ FZ.keep fun p hp => (NZh.1 p hp).1
        have lamZ := hLm _ fun p hp => (NZl p (by simp [hp])).1
        rw [hCnt] at lamZ ndR mR'
        have eN := (NZl (C.nt, W.listOf ns cn) (by simp)).1
        have e100 := (NZl (100, tabObj #[rawInt 43, rawInt 23, .ref c0]) (by simp)).1
        have e236 := (NZl (236, tabObj C.tabX) (by simp)).1
        rw [hCnt] at eN
        refine k _ _ _ ⟨C.lb, C.lr, C.b1, C.b2, C.x1, C.x2, C.f1, C.f2, fz1, fz2, t1, t2, its1, its2, ep1, ep2, os1, os2, rs, cr, ns, cn, #[rawInt 43, rawInt 23, .ref c0], C.tabX⟩
          ⟨fun a o ha e => ⟨fun n => FZ.keep _ _ ((hold a o ha e).1 n), (hold a o ha e).2.imp fun sl y => FZ.keep _ _ y⟩, fun p hp => ?_, ndR, eN, Z.hs, e100, e236, lamZ.1, lamZ.2, frzZ.1, frzZ.2, Z.ir, Z.B1, Z.B2, hs1, hs2'⟩ (key _ NZt.2.2 ?_) NZt.1
        · have m := mR' p hp
          exact ⟨key _ (NZl p m.1).2.2 m.2, (NZl p m.1).1⟩
        · intro hm
          simp only [List.mem_cons, List.not_mem_nil, or_false] at hm
          have t1' := NZt.1
          rcases hm with e | e | e
          · dsimp only at t1'; rw [e, eN] at t1'; simp at t1'
          · dsimp only at t1'; rw [e, e100] at t1'; simp at t1'
          · dsimp only at t1'; rw [e, e236] at t1'; simp at t1'
end
end
theorem off_L0 : True := by
  w_top off
  k_with_none
  trivial
-- L0
section
open PySem PySem.W PyProof.Rows PySem.Calls
theorem kn_postC {M : Model} {A : Around} {cd : Code} {s s₁ : Shared} {cw : ClaimW} {cl : Str → Option Addr} {mean : ExcName → Option Value} {args : List WData} {tabs : List (Addr × Addr)} (hT : TabsAt tabs s₁.heap) (hr : ∀ a x, cw.raises a x = false)
    (h : codeC M A cd (fun r s' => GoodW cw cl mean args { s₁ with heap := ghostOf s₁.heap tabs } r s' ∧ GrownAll tabs s'.heap) s) : codeC M A cd (GoodWG cw cl mean args s₁) s := by
  refine cc_mono h fun r s' x => ?_
  have bel : (⟨.builtin "x" {}, none, none, [], none⟩ : Ctx).Below { depth := 1 } := ⟨rfl, Nat.zero_le _, fun l hl => by (cases hl), fun g hg => by (cases hg), Nat.zero_le _⟩
  cases r with
  | ok f =>
    have h1 := kn_post (M := { M with den := fun _ => pure (.done f) }) (A := { depth := 1 }) (cd := .builtin "x" {}) (s := s') (s₁ := s₁) (cw := cw) (cl := cl) (mean := mean) (args := args) hT hr (codeAny_of_tree (wpAny_pure x)) _ default rfl bel
    rw [wpCode_iff_wp] at h1
    exact h1
  | error e =>
    have h1 := kn_post (M := { M with den := fun _ => throw e }) (A := { depth := 1 }) (cd := .builtin "x" {}) (s := s') (s₁ := s₁) (cw := cw) (cl := cl) (mean := mean) (args := args) hT hr (codeAny_of_tree (wpAny_throw x)) _ default rfl bel
    rw [wpCode_iff_wp] at h1
    exact h1
end
theorem off_L1 : True := by
  w_top off
  k_with_none
  trivial
-- L1
section
open PySem PySem.W PyProof.Rows PySem.Calls
section
variable {prog : Program} {w : World} {A : Around} {E : Value → Shared → Prop} {s : Shared} {env : Env} {scope : Scope} {cl : List (Str × Addr)} {x : Str} {ifs : List Expr} {elt : Expr} {p : Value → Bool} {G : Value → Value → List (Addr × Obj) → Prop}
  {ex : List Addr} {Ex : Addr → Heap → Prop} {done : Addr → Shared → Prop}
/-- need_list, with a word about the heap behind the new iterator -/
theorem need_listP {P : Heap → Prop} (hP : ∀ h', (∀ c o, s.heap.get? c = some o → h'.get? c = some o) → P h') (hh : A.handled = none) {l : Addr} {vs : List Value} (hl : s.heap.IsList l vs.toArray) (hsz : vs.length ≤ 100000) (hex : ∀ b ∈ ex, ∃ o, s.heap.get? b = some o)
    (tests : ∀ C (i : Nat) v h tk E' m', vs[i]? = some v → Fr s.heap C h m' → m' x = some v →
      wpAny (model prog w) A (testsOf ifs (compEnvC scope cl C env)) (fun ok s₃ => ok = p v ∧ Keeps { s with heap := h, toks := tk } s₃) E' { s with heap := h, toks := tk })
    (helt : ∀ C (i : Nat) v h tk E' m', vs[i]? = some v → p v = true → Fr s.heap C h m' → m' x = some v →
      wpAny (model prog w) A (eval elt (compEnvC scope cl C env)) (fun y s₃ => Keeps { s with heap := h, toks := tk } s₃ ∧ ∃ os, G v y os ∧ ∀ q ∈ os, h.get? q.1 = none ∧ s₃.heap.get? q.1 = some q.2) E' { s with heap := h, toks := tk })
    (hdone : ∀ h' tk D ys os nD, s.heap.get? D = none → h'.get? D = some (listOf ys.toArray nD) → GL G (vs.filter p) ys os → (∀ q ∈ os, h'.get? q.1 = some q.2 ∧ s.heap.get? q.1 = none ∧ q.1 ≠ D) → Kp ex s.heap h' → Ex D h' → done D { s with heap := h', toks := tk }) :
    wpAny (model prog w) A (pyIter (.ref l)) (fun it s₂ => P s₂.heap ∧ CompNeed prog w A env scope cl x ifs elt p G ex Ex done it s₂) E s := by
  have hlt : l < s.heap.objs.size := by obtain ⟨o, e, _⟩ := hl; exact Heap.lt_size e
  refine wpAny_pyIter_list hl ⟨hP _ fun c o e => Heap.get?_push_of_some _ e, ?_⟩
  have st : ∀ (o : Obj) (h : Heap), (∀ b o', b ∉ [s.heap.objs.size] → (s.heap.push o).get? b = some o' → h.get? b = some o') → s.heap.StaysIn h := fun o h k b o' e =>
    k b o' (fun q => Nat.ne_of_lt (Heap.lt_size e) (List.mem_singleton.mp q)) (Heap.get?_push_of_some _ e)
  have le : ∀ {o : Obj} (C : Addr), (s.heap.push o).objs.size ≤ C → s.heap.objs.size ≤ C := fun C q => by rw [Heap.size_push] at q; exact Nat.le_of_succ_le q
  refine ⟨_, _, _, _, _, _, rfl, Walks.list hh s.heap.objs.size l (Nat.ne_of_lt hlt) vs.toArray, by rw [List.size_toArray, sizeLine_eq]; omega, ⟨⟨_, Heap.get?_push_size _ rfl, rfl, rfl⟩, hl.at fun o e => Heap.get?_push_of_some _ e⟩, ?_, ?_, ?_, ?_, ?_, ?_⟩
  · rintro i h ⟨⟨o, e, _⟩, _⟩ b hb
    exact ⟨o, List.mem_singleton.mp hb ▸ e⟩
  · intro b hb
    rw [Heap.size_push]
    rcases List.mem_cons.mp hb with rfl | hb
    · exact Nat.lt_succ_self _
    · rw [List.mem_singleton.mp hb]; exact Nat.lt_succ_of_lt hlt
  · intro b hb
    obtain ⟨o, e⟩ := hex b hb
    exact ⟨fun q => Nat.ne_of_lt (Heap.lt_size e) (List.mem_singleton.mp q), o, Heap.get?_push_of_some _ e⟩
  · intro C i v h tk E' m' hi hP hC hn hm k
    exact tests C i v h tk E' m' (by simpa using hP) ⟨hn, st _ h k, le _ hC⟩ hm
  · intro C i v h tk E' m' hi hP hp hC hn hm k
    exact helt C i v h tk E' m' (by simpa using hP) hp ⟨hn, st _ h k, le _ hC⟩ hm
  · intro h' tk D ys us os nD hD hD' hlen hP hG hos k hE
    have e : us = vs := list_eq_of (by simpa using hlen) fun j v hj => by simpa using hP j v hj
    subst e
    exact hdone h' tk D ys os nD (push_none hD) hD' hG (fun q hq => ⟨(hos q hq).1, push_none (hos q hq).2.1, (hos q hq).2.2⟩)
      (fun b o hb e => k b o (fun q => Nat.ne_of_lt (Heap.lt_size e) (List.mem_singleton.mp q)) hb (Heap.get?_push_of_some _ e)) hE
end
/-! what the index has, in plain words -/
theorem snoc_ind {α : Type} {P : List α → Prop} (h0 : P []) (h1 : ∀ xs x, P xs → P (xs ++ [x])) : ∀ xs, P xs := fun xs => by
  have : ∀ ys : List α, P ys.reverse := fun ys => by
    induction ys with
    | nil => exact h0
    | cons y r ih => rw [List.reverse_cons]; exact h1 _ _ ih
  rw [← List.reverse_reverse xs]; exact this _
theorem addTo_map {f : Str → List Int} {x : Str} {p : Int} : ∀ {ws : List Str}, ws.Nodup → (x ∉ ws → f x = []) → addTo (ws.map fun y => (y, f y)) x p = (addWord ws x).map fun y => (y, if x = y then f y ++ [p] else f y)
  | [], _, h => by simp [addTo, addWord, h]
  | y :: r, n, h => by
    rw [List.nodup_cons] at n
    by_cases e : x = y
    · subst e
      have ne : ∀ z ∈ r, ¬ x = z := fun z hz q => n.1 (q ▸ hz)
      have ea : addWord (x :: r) x = x :: r := by unfold addWord; rw [if_pos (by simp)]
      rw [ea, List.map_cons, List.map_cons]
      unfold addTo
      rw [if_pos rfl, if_pos rfl]
      congr 1
      exact List.map_congr_left fun z hz => by rw [if_neg (ne z hz)]
    · have ih := addTo_map (f := f) (x := x) (p := p) n.2 fun hm => h (by simp [e, hm])
      simp only [List.map_cons, addTo, if_neg e]
      rw [ih]
      unfold addWord
      have e' : ¬ (y == x) = true := by simpa using fun q : y = x => e q.symm
      have ea : ((y :: r).any fun z => z == x) = (r.any fun z => z == x) := by rw [List.any_cons]; simp [e']
      rw [ea]
      by_cases q : (r.any fun z => z == x) = true
      · rw [if_pos q, if_pos q]; simp [if_neg e]
      · rw [if_neg q, if_neg q]; simp [if_neg e]
theorem addWord_nodup {ws : List Str} {x : Str} (n : ws.Nodup) : (addWord ws x).Nodup := by
  unfold addWord
  split
  · exact n
  · rename_i h
    rw [List.nodup_append]
    refine ⟨n, by simp, fun a ha b hb q => h ?_⟩
    rw [List.mem_singleton] at hb
    subst hb; subst q
    exact List.any_eq_true.mpr ⟨a, ha, by simp⟩
theorem wordsOf_nodup : ∀ xs : List Str, (wordsOf xs).Nodup := by
  refine snoc_ind ?_ fun xs x ih => ?_
  · exact .nil
  · rw [wordsOf_snoc]; exact addWord_nodup ih
theorem addWord_mem {ws : List Str} {x y : Str} : y ∈ addWord ws x ↔ y ∈ ws ∨ y = x := by
  unfold addWord
  split
  · rename_i h
    obtain ⟨z, hz, e⟩ := List.any_eq_true.mp h
    have e' : z = x := by simpa using e
    exact ⟨.inl, fun q => q.elim id fun q => by rw [q, ← e']; exact hz⟩
  · simp
theorem wordsOf_mem {y : Str} : ∀ xs : List Str, y ∈ wordsOf xs ↔ y ∈ xs := by
  refine snoc_ind ?_ fun xs x ih => ?_
  · simp [wordsOf]
  · rw [wordsOf_snoc, addWord_mem, ih]; simp
theorem places_snoc {bs : List Bool} {b : Bool} : places (bs ++ [b]) = places bs ++ (if b then [bs.length] else []) := by
  unfold places
  rw [List.length_append, List.length_singleton, List.range_succ, List.filter_append]
  congr 1
  · apply List.filter_congr
    intro i hi
    rw [List.mem_range] at hi
    rw [List.getD_eq_getElem?_getD, List.getD_eq_getElem?_getD, List.getElem?_append_left hi]
  · rw [List.filter_cons, List.filter_nil]
    have e : (bs ++ [b]).getD bs.length false = b := by simp
    rw [e]
theorem bookFrom_is {key : Int → Str} : ∀ xs : List Int, bookFrom key [] 0 xs = (wordsOf (xs.map key)).map fun y => (y, pints (xs.map fun z => decide (key z = y))) := by
  refine snoc_ind ?_ fun xs x ih => ?_
  · rfl
  · rw [bookFrom_snoc, ih, addTo_map (wordsOf_nodup _) ?_]
    · rw [List.map_append, List.map_singleton, wordsOf_snoc]
      refine List.map_congr_left fun y _ => ?_
      have e : pints ((xs ++ [x]).map fun z => decide (key z = y)) = pints (xs.map fun z => decide (key z = y)) ++ (if key x = y then [(xs.length : Int)] else []) := by
        rw [List.map_append, List.map_singleton]
        unfold pints
        rw [places_snoc, List.map_append, List.length_map]
        by_cases q : key x = y <;> simp [q]
      rw [e, Nat.zero_add]
      by_cases q : key x = y
      · rw [if_pos q, if_pos q]
      · rw [if_neg q, if_neg q, List.append_nil]
    · intro hx
      rw [wordsOf_mem] at hx
      have : places (xs.map fun z => decide (key z = key x)) = [] := places_none (by
        rw [List.any_eq_false]
        intro b hb
        obtain ⟨z, hz, rfl⟩ := List.mem_map.mp hb
        simp only [id]
        intro q
        exact hx (List.mem_map.mpr ⟨z, hz, of_decide_eq_true q⟩))
      unfold pints
      rw [this]; rfl
theorem BItems.keys {its bk os} (x : BItems its bk os) : its.map (·.1) = bk.map (·.1) := by
  induction x with
  | nil => rfl
  | cons _ _ _ _ _ _ _ _ ih => simp [ih]
noncomputable abbrev rowsOf (zs : List Int) : List (Str × Str) := (takenOf zs).map fun z => (nameOf z, valOf z)
section
variable {w : World} {g : Heap} {its : List BItem} {os : List (Addr × Obj)} {key : Int → Str} {xs : List Int} {x : Str}
theorem book_hit (B : BItems its (bookFrom key [] 0 xs) os) {p : BItem} (hf : its.find? (fun p => decide (x = p.1)) = some p) (hg : ∀ q ∈ os, g.get? q.1 = some q.2) :
    (∃ us n, g.get? p.2.2 = some (listOf (List.toArray us) n) ∧ NatsAre us (places (xs.map fun z => decide (key z = x)))) ∧ (xs.map fun z => decide (key z = x)).any id = true := by
  obtain ⟨o1, o2, vs, n, rfl, ⟨ns, hm, hv⟩, _⟩ := B.hit hf
  rw [bookFrom_is] at hm
  obtain ⟨y, hy, e⟩ := List.mem_map.mp hm
  injection e with e1 e2
  subst e1 e2
  refine ⟨⟨vs, n, hg (p.2.2, listOf vs.toArray n) (by simp), hv⟩, ?_⟩
  rw [wordsOf_mem] at hy
  obtain ⟨z, hz, e⟩ := List.mem_map.mp hy
  exact List.any_eq_true.mpr ⟨true, List.mem_map.mpr ⟨z, hz, by rw [e]; simp⟩, rfl⟩
theorem book_miss (B : BItems its (bookFrom key [] 0 xs) os) (hf : its.find? (fun p => decide (x = p.1)) = none) : (xs.map fun z => decide (key z = x)).any id = false := by
  rw [List.any_eq_false]
  intro b hb q
  obtain ⟨z, hz, rfl⟩ := List.mem_map.mp hb
  have e : key z = x := of_decide_eq_true q
  have hk : x ∈ its.map (·.1) := by
    rw [B.keys, bookFrom_is, List.map_map]
    exact List.mem_map.mpr ⟨x, (wordsOf_mem _).mpr (List.mem_map.mpr ⟨z, hz, e⟩), rfl⟩
  obtain ⟨p, hp, ep⟩ := List.mem_map.mp hk
  have := List.find?_eq_none.mp hf p hp
  simp [ep] at this
end
section
variable {w : World} {zs : List Int} {nt : Addr} {h h' hb g : Heap} {fs fs' : List Addr} {r : IdxRes}
theorem IdxOk.ne (I : IdxOk w zs nt h h' fs r) : ∀ p ∈ resLed w r, p.1 ≠ nt := fun p hp q => by
  have := I.nd
  unfold Nd at this
  rw [List.map_cons, List.nodup_cons] at this
  exact this.1 (List.mem_map.mpr ⟨p, hp, q⟩)
theorem IdxOk.kept (I : IdxOk w zs nt h h' fs r) {L : Addr} (hL : ∃ o es ep, h'.get? L = some o ∧ o.data = .dict es ep) (hg : ∀ a o, a ≠ nt → a ≠ L → h'.get? a = some o → g.get? a = some o) : ∀ a o, h'.get? a = some o → (∀ es ep, o.data ≠ .dict es ep) → (∀ xs e, o.data ≠ .seq xs e) → (∀ vs, o.data = .fields vs → ∃ q t, vs[1]? = some (.str q t)) → g.get? a = some o := fun a o e nd n _ =>
  hg a o (fun q => by
    have := I.note
    rw [← q, e] at this
    injection this with this
    exact n _ _ (by rw [this])) (fun q => by
    obtain ⟨oL, es, ep, eL, dL⟩ := hL
    rw [q, eL] at e
    injection e with e
    exact nd es ep (by rw [← e]; exact dL)) e
theorem IdxOk.book1 (I : IdxOk w zs nt h h' fs r) {L : Addr} (hL : ∃ o es ep, h'.get? L = some o ∧ o.data = .dict es ep) (nL : ∀ p ∈ resLed w r, p.1 ≠ L) (hg : ∀ a o, a ≠ nt → a ≠ L → h'.get? a = some o → g.get? a = some o) (hbn : ∀ p ∈ resLed w r, hb.get? p.1 = none) (nf : ∀ p ∈ resLed w r, p.1 ∉ fs') :
    BookAt w hb g fs' nt (rowsOf zs) 0 ⟨r.b1, r.x1, r.f1, r.fz1, r.its1, r.ep1, r.t1⟩ := by
  have m : ∀ p ∈ resLed w r, g.get? p.1 = some p.2 := fun p hp => hg _ _ (I.ne p hp) (nL p hp) (I.new p hp).2
  have e : ∀ x, bsOf (rowsOf zs) 0 x = (takenOf zs).map fun z => decide (nameOf z = x) := fun x => by
    unfold bsOf rowsOf; rw [List.map_map]; rfl
  refine ⟨m (r.b1, _) (by simp [resLed]), hbn (r.b1, bookObj r.x1 r.f1 (esOf w r.its1) r.ep1) (by simp [resLed]), m (r.x1, _) (by simp [resLed]), I.frz1.kept (I.kept hL hg), I.lam1.kept (I.kept hL hg), I.m1, nf (r.b1, bookObj r.x1 r.f1 (esOf w r.its1) r.ep1) (by simp [resLed]), nf (r.x1, frozenDict w r.fz1 r.t1) (by simp [resLed]), fun x p hf => ?_, fun x hf => ?_⟩
  · rw [e]; exact book_hit I.B1 hf fun q hq => m q (by simp [resLed, hq])
  · rw [e]; exact book_miss I.B1 hf
theorem IdxOk.book2 (I : IdxOk w zs nt h h' fs r) {L : Addr} (hL : ∃ o es ep, h'.get? L = some o ∧ o.data = .dict es ep) (nL : ∀ p ∈ resLed w r, p.1 ≠ L) (hg : ∀ a o, a ≠ nt → a ≠ L → h'.get? a = some o → g.get? a = some o) (hbn : ∀ p ∈ resLed w r, hb.get? p.1 = none) (nf : ∀ p ∈ resLed w r, p.1 ∉ fs') :
    BookAt w hb g fs' nt (rowsOf zs) 1 ⟨r.b2, r.x2, r.f2, r.fz2, r.its2, r.ep2, r.t2⟩ := by
  have m : ∀ p ∈ resLed w r, g.get? p.1 = some p.2 := fun p hp => hg _ _ (I.ne p hp) (nL p hp) (I.new p hp).2
  have e : ∀ x, bsOf (rowsOf zs) 1 x = (takenOf zs).map fun z => decide (valOf z = x) := fun x => by
    unfold bsOf rowsOf; rw [List.map_map]; rfl
  refine ⟨m (r.b2, _) (by simp [resLed]), hbn (r.b2, bookObj r.x2 r.f2 (esOf w r.its2) r.ep2) (by simp [resLed]), m (r.x2, _) (by simp [resLed]), I.frz2.kept (I.kept hL hg), I.lam2.kept (I.kept hL hg), I.m2, nf (r.b2, bookObj r.x2 r.f2 (esOf w r.its2) r.ep2) (by simp [resLed]), nf (r.x2, frozenDict w r.fz2 r.t2) (by simp [resLed]), fun x p hf => ?_, fun x hf => ?_⟩
  · rw [e]; exact book_hit I.B2 hf fun q hq => m q (by simp [resLed, hq])
  · rw [e]; exact book_miss I.B2 hf
end
/-! the data at the end -/
noncomputable abbrev entryD (x : Str) (ns : List Int) : Dat := .tuple [.str x, .list (ns.map Dat.int)]
noncomputable abbrev bookD (bk : Book) : Dat := .list (bk.map fun q => entryD q.1 q.2)
theorem ints_all {news : List (Addr × Obj)} : ∀ {vs : List Value} {ns : List Int}, IntsAre vs ns → DatAll news vs (ns.map Dat.int)
  | _, _, .nil => .nil
  | _, _, .cons n t r => .cons (.int n t) (ints_all r)
theorem entry_in {news : List (Addr × Obj)} {a l : Addr} {x : Str} {t : Tok} {us : List Value} {n : Nat} {ns : List Int} (ha : (a, dueTup x t l) ∈ news) (hl : (l, listOf us.toArray n) ∈ news) (hu : IntsAre us ns) : DatIn news (.ref a) (entryD x ns) :=
  .tuple (vs := [.str x t, .ref l]) (n := 0) ha (.cons (.str x t) (.cons (.list hl (ints_all hu)) .nil))
theorem due_all {os : List (Addr × Obj)} {rws : List (Str × Str)} {sd : Int} : ∀ {ws : List Str} {ys : List Value}, DueIn os rws sd ws ys → DatAll os ys (ws.map fun x => entryD x (pints (bsOf rws sd x)))
  | [], ys, h => by
    have : ys = [] := List.eq_nil_of_length_eq_zero h.1
    subst this; exact .nil
  | x :: r, ys, h => by
    obtain ⟨a, t, l, us, n, e1, e2, e3, e4⟩ := h.2 0 x rfl
    cases ys with
    | nil => cases e1
    | cons y q =>
      cases e1
      exact .cons (entry_in e2 e3 e4) (due_all ⟨by have := h.1; simpa using this, fun i x' hi => by
        obtain ⟨a, t, l, us, n, e1, e2, e3, e4⟩ := h.2 (i + 1) x' (by simpa using hi)
        exact ⟨a, t, l, us, n, by simpa using e1, e2, e3, e4⟩⟩)
theorem due_is (zs : List Int) : bookD (bookFrom nameOf [] 0 (takenOf zs)) = .list ((wordsOf ((rowsOf zs).map (sideOf 0))).map fun x => entryD x (pints (bsOf (rowsOf zs) 0 x))) ∧
    bookD (bookFrom valOf [] 0 (takenOf zs)) = .list ((wordsOf ((rowsOf zs).map (sideOf 1))).map fun x => entryD x (pints (bsOf (rowsOf zs) 1 x))) := by
  constructor
  · rw [bookFrom_is]; unfold bookD rowsOf bsOf; rw [List.map_map, List.map_map]
    refine congrArg Dat.list (List.map_congr_left fun x _ => ?_)
    simp only [List.map_map]; rfl
  · rw [bookFrom_is]; unfold bookD rowsOf bsOf; rw [List.map_map, List.map_map]
    refine congrArg Dat.list (List.map_congr_left fun x _ => ?_)
    simp only [List.map_map]; rfl
theorem word_ok : ∀ i ∈ ([0, 1, 2, 4, 5, 6] : List Int), PyData.strOk (wordAt i) = true := by decide +kernel
theorem book_ok8 {key : Int → Str} (hk : ∀ z, PyData.strOk (key z) = true) (xs : List Int) : kqdOk 8 (bookD (bookFrom key [] 0 xs)) = true := by
  rw [bookFrom_is]
  unfold bookD
  rw [List.map_map]
  simp only [kqdOk, List.all_eq_true, List.mem_map]
  rintro d ⟨x, hx, rfl⟩
  rw [wordsOf_mem] at hx
  obtain ⟨z, _, rfl⟩ := List.mem_map.mp hx
  simp only [Function.comp, kqdOk, List.all_cons, List.all_nil, Bool.and_true, Bool.and_eq_true, hk, true_and, List.all_eq_true, List.mem_map]
  rintro d ⟨n, _, rfl⟩
  rfl
theorem words3_ok : ∀ n ∈ ([0, 1, 2] : List Int), PyData.strOk (wordAt n) = true ∧ PyData.strOk (wordAt (4 + n)) = true := by decide +kernel
theorem name_ok (z : Int) : PyData.strOk (nameOf z) = true := (words3_ok _ (mod3_mem z)).1
theorem val_ok (z : Int) : PyData.strOk (valOf z) = true := (words3_ok _ (mod3_mem (z.fdiv 3))).2
end
theorem off_BI : True := by
  w_top off
  k_with_none
  trivial
-- BI
section
open PySem PySem.W PyProof.Rows PySem.Calls
section
variable {w : World} {h : Heap}
theorem it_look (X : (hd.heap_1 w.params).In h) : Looks (model Challenge.rw_mq0106_01.row.prog w) h (typeLookup (.ref 108) "__iter__") (some (.builtin "dict.__iter__")) := by
  revert X; k_fill; intro X
  exact looks_findIn X (by kernel_rfl)
theorem di_kind : builtinKind "dict.__iter__" = some .slot := by decide +kernel
theorem di_split : splitId "dict.__iter__" = some ("dict", "__iter__") := by decide +kernel
end
section
variable {w : World} {A : Around} {E : Value → Shared → Prop} {h : Heap} {g : Array GenState} {d : Drawn} {t : Nat} {os : OsState}
/-- a book is walked: a new iterator over its keys -/
theorem bk_iter {b dx lam : Addr} {es : Array DictEntry} {ep : Nat} {Q : Value → Shared → Prop} (X : (hd.heap_1 w.params).In h) (hb : h.get? b = some (bookObj dx lam es ep)) (hs : (b == sysModules) = false)
    (hQ : Q (.ref h.objs.size) ⟨h.push { cls := .type "dict_keyiterator", data := .fields #[.ref b, .int 0 0, .int es.size 0, .int ep 0] }, g, d, t, os⟩) :
    wpAny (model Challenge.rw_mq0106_01.row.prog w) A (pyIter (.ref b)) Q E ⟨h, g, d, t, os⟩ := by
  have F0 : Looks (model Challenge.rw_mq0106_01.row.prog w) h (typeOf (.ref b)) (.ref 108) := (Looks.ld (part := some headPart) hb).andThen .now
  have F1 : Looks (model Challenge.rw_mq0106_01.row.prog w) h (isInstance (.ref b) (.type "dict")) true := F0.andThen (fd_sub X)
  have F2 := it_look X
  have F3 : Looks (model Challenge.rw_mq0106_01.row.prog w) h (isInstance (.ref b) (.type "collections.OrderedDict")) false := F0.andThen (fd_subo X)
  have run : wpAny (model Challenge.rw_mq0106_01.row.prog w) A (PySem.call (.builtin "dict.__iter__") [.ref b]) (fun v s' => ∃ T' r, s'.TypeIs v T' ∧ typeLookup (.type T') "__next__" = pure (some r) ∧ Q v s') E ⟨h, g, d, t, os⟩ := by
    refine wpAny_call (codeAny_call_builtin_code (Code.quiet_builtin _ (by decide +kernel)) ?_)
    refine @check_slot (model Challenge.rw_mq0106_01.row.prog w) _ _ _ "dict.__iter__" "dict" "__iter__" (.ref b) [] [] _ di_kind di_split F1 (PySem.F.args_dict_iter_1 _) ?_
    refine codeAny_builtin PySem.F.entry_dict_iter ?_
    unfold Builtin.«dict.__iter__»
    refine wpAny_bind ?_
    unfold Builtin.Dict.dictSlotNone Builtin.Dict.notOrdered
    rw [if_pos (by decide)]
    dsimp only
    refine wpAny_bind (wpAny_bind (F0.at ?_))
    rw [if_pos (by decide)]
    refine wpAny_bind (F3.at ?_)
    rw [if_neg (by decide)]
    refine wpAny_pure ?_
    show wpAny _ _ (pure (Value.ref b)) _ _ _
    refine wpAny_pure ?_
    show wpAny _ _ (Builtin.Dict.showsAll b >>= _) _ _ _
    unfold Builtin.Dict.showsAll
    rw [if_neg (by rw [hs]; exact Bool.false_ne_true)]
    refine wpAny_bind (wpAny_pure ?_)
    refine wpAny_bind (wpAny_dictEntries (s := ⟨h, g, d, t, os⟩) hb rfl ?_)
    refine wpAny_bind (wpAny_dictEpoch (s := ⟨h, g, d, t, os⟩) hb rfl ?_)
    refine wpAny_bind (wpAny_newObj_type (wpAny_pure ⟨_, _, ⟨_, Heap.get?_push_size _ rfl, rfl⟩, PySem.F.slot_dict_keyiterator_next.lookup, ?_⟩))
    exact hQ
  unfold pyIter callSpecialIfBoundUnlessNone? bindSpecialIfBound? specialOf
  refine wpAny_bind (wpAny_bind (F0.at (F2.at ?_)))
  dsimp only
  refine wpAny_bind (wpAny_holding (wpAny_bind (wpAny_bind (wpAny_bind (F0.at (F2.at ?_))))))
  dsimp only
  have eb : bindSpecial (.builtin "dict.__iter__") (.ref b) = pure (Value.builtin "dict.__iter__", [Value.ref b]) := PySem.F.slot_dict_iter.bind _
  simp only [eb]
  refine wpAny_bind (wpAny_askSetting (wpAny_ite ?_))
  have hnn : ¬ ((Value.builtin "dict.__iter__" == Value.none) = true) := by rw [builtin_beq_none]; exact Bool.false_ne_true
  split
  · refine wpAny_bind (wpAny_pure (wpAny_pure ?_))
    dsimp only
    rw [if_neg hnn]
    refine wpAny_bind (wpAny_mono run (fun v s' z => wpAny_pure ?_) fun _ _ e => e)
    obtain ⟨T', r, hT, hl, hq⟩ := z
    exact wpAny_bind (wpAny_specialOf hT hl (wpAny_pure hq))
  · refine wpAny_tryCatch (wpAny_bind (wpAny_pure (wpAny_pure ?_)))
    dsimp only
    rw [if_neg hnn]
    refine wpAny_bind (wpAny_mono run (fun v s' z => wpAny_pure ?_) fun _ _ e => e)
    obtain ⟨T', r, hT, hl, hq⟩ := z
    exact wpAny_bind (wpAny_specialOf hT hl (wpAny_pure hq))
end
/-- a dict's object, of whatever class -/
noncomputable def DictHere (h : Heap) (d : Addr) (es : Array DictEntry) (ep : Nat) : Prop := ∃ o, h.get? d = some o ∧ o.data = .dict es ep
section
variable {prog : Program} {w : World} {A : Around} {E : Value → Shared → Prop} {s : Shared} {it d : Addr} {i ep : Nat} {es : Array DictEntry} {Q : Option Value → Shared → Prop}
/-- the head of a key iterator's step, up to the place in the entries -/
theorem keys_step {o : Obj} (ho : s.heap.get? it = some o) (hc : o.cls = .type "dict_keyiterator") (hd : o.data = .fields #[.ref d, .int i 0, .int es.size 0, .int ep 0]) (hm : DictHere s.heap d es ep)
    (hlt : ∀ e, es[i]? = some e → ∀ h', h'.IsKeyIter it d (i + 1) es.size ep → Heap.SameBut it s.heap h' → Q (some e.key) { s with heap := h' })
    (hend : es[i]? = none → A.handled = none ∧ ∀ h', Heap.ExtBut it s.heap h' → Q none { s with heap := h' }) : wpAny (model prog w) A (pyNext (.ref it)) Q E s := by
  obtain ⟨od, hod, hdd⟩ := hm
  have hT : s.TypeIs (.ref it) "dict_keyiterator" := ⟨o, ho, hc⟩
  unfold pyNext
  refine wpAny_bind (wpAny_attempt (wpAny_callSpecial?_slot (name := Str.ofString "__next__") hT PySem.F.slot_dict_keyiterator_next
    (wpAny_call_entry PySem.F.slot_dict_keyiterator_next hT PySem.F.entry_dict_keyiterator_next ?_ (PySem.F.args_dict_keyiterator_next_1 _))))
  refine wpAny_bind (wpAny_pure (wpAny_bind (wpAny_bind ?_)))
  first | refine wpAny_bind (wpAny_typeNameOfWhole_keyiter hT (wpAny_pure ?_)) | refine wpAny_bind (wpAny_typeNameOf_keyiter hT (wpAny_pure ?_))
  refine wpAny_bind (wpAny_fieldsOf ho hd ?_)
  have hown : Builtin.Dict_items.ownsTuple "dict_keyiterator" = false := by decide
  simp only [hown, Bool.false_eq_true, if_false]
  show wpAny _ _ (if (Value.ref d == Value.none) = true then _ else _) _ _ s
  rw [if_neg (show ¬ ((Value.ref d == Value.none) = true) from Bool.false_ne_true)]
  refine wpAny_bind (wpAny_pure (wpAny_bind (wpAny_dictEntries hod hdd ?_)))
  rw [if_neg (by simp)]
  refine wpAny_bind (wpAny_pure (wpAny_bind (wpAny_dictEpoch hod hdd ?_)))
  rw [if_neg (by simp)]
  refine wpAny_pure ?_
  cases hx : es[i]? with
  | some e =>
    simp only [show ¬ ((i : Int) < 0) from by omega, if_false, Int.toNat_natCast, hx]
    refine wpAny_bind ?_
    first | refine wpAny_bind (wpAny_typeNameOfWhole_keyiter hT (wpAny_pure ?_)) | refine wpAny_bind (wpAny_typeNameOf_keyiter hT (wpAny_pure ?_))
    refine wpAny_bind (wpAny_isOneOf_keyiter hT ?_)
    show wpAny _ _ (setField (.ref it) 1 (rawInt ((i : Int) + 1)) >>= _) _ _ s
    refine wpAny_bind (wpAny_setField ho hd (by simp) ?_)
    have hit' : (s.heap.update it (Obj.mapFields (·.setIfInBounds 1 (rawInt ((i : Int) + 1))))).IsKeyIter it d (i + 1) es.size ep :=
      ⟨_, Heap.get?_update_self _ ho (Obj.isFreed_of_fields (Obj.data_mapFields hd _)), (Obj.cls_mapFields ..).trans hc, by rw [Obj.data_mapFields hd]; simp [rawInt]⟩
    refine wpAny_bind (wpAny_holding (wpAny_bind (wpAny_isOneOf_keyiter (s := { s with heap := s.heap.update it (Obj.mapFields (·.setIfInBounds 1 (rawInt ((i : Int) + 1)))) }) hit'.typeIs ?_)))
    show wpAny _ _ (pure e.key) _ _ _
    exact wpAny_pure (wpAny_pure ⟨_, rfl, wpAny_pure (hlt e hx _ hit' (Heap.SameBut.update ..))⟩)
  | none =>
    obtain ⟨hh, hQ⟩ := hend hx
    simp only [show ¬ ((i : Int) < 0) from by omega, if_false, Int.toNat_natCast, hx]
    refine wpAny_bind ?_
    first | refine wpAny_bind (wpAny_typeNameOfWhole_keyiter hT (wpAny_pure ?_)) | refine wpAny_bind (wpAny_typeNameOf_keyiter hT (wpAny_pure ?_))
    show wpAny _ _ (setField (.ref it) 0 .none >>= _) _ _ s
    refine wpAny_bind (wpAny_setField ho hd (by simp) ?_)
    show wpAny _ _ (newExc (.type "StopIteration") [] >>= _) _ _ _
    refine wpAny_bind ?_
    simp only [newExc, newTuple]
    refine wpAny_bind (wpAny_newObj_type ?_ (by size_fits))
    refine wpAny_bind (m := firstArgMember _ _) (wpAny_of_eq (a := Value.none) (by first | rfl | (simp only [firstArgMember]; rfl)) ?_)
    refine wpAny_newObj_type ?_ (by size_fits)
    simp only [raiseNew]
    refine wpAny_bind (wpAny_handled ?_)
    rw [show A.in1.handled = none from hh]
    refine wpAny_bind (wpAny_pure (wpAny_throw ?_))
    refine wpAny_bind (wpAny_isInstance (T := "StopIteration") (b := true) ⟨_, Heap.get?_push_size _ rfl, rfl⟩ isSubtype_stop ?_)
    exact wpAny_pure (hQ _ (((Heap.SameBut.update ..).extBut.push _).push _))
end
theorem Walks.keys {prog : Program} {w : World} {A : Around} (hh : A.handled = none) (I d : Addr) (hne : d ≠ I) (es : Array DictEntry) (ep : Nat) :
    Walks prog w A I [I, d] [I] es.size (fun i v => ∃ e, es[i]? = some e ∧ v = e.key) (fun i h => h.IsKeyIter I d i es.size ep ∧ DictHere h d es ep) where
  sub := fun b hb => by simp at hb; simp [hb]
  frame := fun _ _ _ st hk => ⟨st.1.at fun o e => hk I (by simp) o e, st.2.imp fun o q => ⟨hk d (by simp) o q.1, q.2⟩⟩
  item := fun i s Q E hi st hQ => by
    obtain ⟨o, ho, hc, hd⟩ := st.1
    refine keys_step ho hc hd st.2 (fun e hx h' hit hs => hQ e.key h' s.toks ⟨e, hx, rfl⟩ ⟨hit, ?_⟩ fun b o hb e => hs.extBut b o (fun h => hb (by simp [h])) e) fun hx => absurd hi (by simpa using hx)
    obtain ⟨od, q, r⟩ := st.2
    exact ⟨od, hs.extBut _ _ hne q, r⟩
  done := fun s Q E st hQ => by
    obtain ⟨o, ho, hc, hd⟩ := st.1
    refine keys_step ho hc hd st.2 (fun e hx => absurd hx (by simp)) fun hx => ⟨hh, fun h' he => hQ h' s.toks fun b o hb e => he b o (fun h => hb (by simp [h])) e⟩
  self := fun _ _ _ _ st hQ => wpAny_pyIter_keyiter st.1 hQ
section
variable {w : World} {A : Around} {E : Value → Shared → Prop} {s : Shared} {env : Env} {scope : Scope} {cl : List (Str × Addr)} {x : Str} {elt : Expr} {G : Value → Value → List (Addr × Obj) → Prop}
  {ex : List Addr} {Ex : Addr → Heap → Prop} {done : Addr → Shared → Prop}
noncomputable abbrev keyOf (p : BItem) : Value := .str p.1 p.2.1
/-- a comprehension over a book -/
theorem need_keys (hh : A.handled = none) (X : (hd.heap_1 w.params).In s.heap) {b dx lam : Addr} {its : List BItem} {ep : Nat} (hb : s.heap.get? b = some (bookObj dx lam (esOf w its) ep)) (hs : (b == sysModules) = false) (hsz : its.length ≤ 100000) (hex : ∀ b ∈ ex, ∃ o, s.heap.get? b = some o)
    (helt : ∀ C (i : Nat) p h tk E' m', its[i]? = some p → Fr s.heap C h m' → m' x = some (keyOf p) →
      wpAny (model Challenge.rw_mq0106_01.row.prog w) A (eval elt (compEnvC scope cl C env)) (fun y s₃ => Keeps { s with heap := h, toks := tk } s₃ ∧ ∃ os, G (keyOf p) y os ∧ ∀ q ∈ os, h.get? q.1 = none ∧ s₃.heap.get? q.1 = some q.2) E' { s with heap := h, toks := tk })
    (hdone : ∀ h' tk D ys os nD, s.heap.get? D = none → h'.get? D = some (listOf ys.toArray nD) → GL G (its.map keyOf) ys os → (∀ q ∈ os, h'.get? q.1 = some q.2 ∧ s.heap.get? q.1 = none ∧ q.1 ≠ D) → Kp ex s.heap h' → Ex D h' → done D { s with heap := h', toks := tk }) :
    wpAny (model Challenge.rw_mq0106_01.row.prog w) A (pyIter (.ref b)) (fun it s₂ => CompNeed Challenge.rw_mq0106_01.row.prog w A env scope cl x [] elt (fun _ => true) G ex Ex done it s₂) E s := by
  obtain ⟨hp, g, d, tk, os⟩ := s
  have hlt : b < hp.objs.size := Heap.lt_size hb
  refine bk_iter X hb hs ?_
  have st : ∀ (o : Obj) (h : Heap), (∀ c o', c ∉ [hp.objs.size] → (hp.push o).get? c = some o' → h.get? c = some o') → hp.StaysIn h := fun o h k c o' e =>
    k c o' (fun q => Nat.ne_of_lt (Heap.lt_size e) (List.mem_singleton.mp q)) (Heap.get?_push_of_some _ e)
  have le : ∀ {o : Obj} (C : Addr), (hp.push o).objs.size ≤ C → hp.objs.size ≤ C := fun C q => by rw [Heap.size_push] at q; exact Nat.le_of_succ_le q
  have ekey : ∀ (i : Nat) (v : Value), (∃ e, (esOf w its)[i]? = some e ∧ v = e.key) → ∃ p, its[i]? = some p ∧ v = keyOf p := by
    rintro i v ⟨e, he, rfl⟩
    unfold esOf at he
    rw [List.getElem?_toArray, List.getElem?_map] at he
    cases q : its[i]? with
    | none => rw [q] at he; cases he
    | some p => rw [q] at he; cases he; exact ⟨p, rfl, rfl⟩
  refine ⟨_, _, _, _, _, _, rfl, Walks.keys hh hp.objs.size b (Nat.ne_of_lt hlt) (esOf w its) ep, by rw [esOf_size, sizeLine_eq]; omega, ⟨⟨_, Heap.get?_push_size _ rfl, rfl, rfl⟩, _, Heap.get?_push_of_some _ hb, rfl⟩, ?_, ?_, ?_, ?_, ?_, ?_⟩
  · rintro i h ⟨⟨o, e, _⟩, _⟩ c hc
    exact ⟨o, List.mem_singleton.mp hc ▸ e⟩
  · intro c hc
    show c < (hp.push _).objs.size
    rw [Heap.size_push]
    rcases List.mem_cons.mp hc with rfl | hc
    · exact Nat.lt_succ_self _
    · rw [List.mem_singleton.mp hc]; exact Nat.lt_succ_of_lt hlt
  · intro c hc
    obtain ⟨o, e⟩ := hex c hc
    exact ⟨fun q => Nat.ne_of_lt (Heap.lt_size e) (List.mem_singleton.mp q), o, Heap.get?_push_of_some _ e⟩
  · intro C i v h tk E' m' hi hP hC hn hm k
    exact wpAny_pure ⟨rfl, _, _, rfl, fun _ _ e => e⟩
  · intro C i v h tk E' m' hi hP hp' hC hn hm k
    obtain ⟨p, q, rfl⟩ := ekey i v hP
    exact helt C i p h tk E' m' q ⟨hn, st _ h k, le _ hC⟩ hm
  · intro h' tk D ys us os nD hD hD' hlen hP hG hos k hE
    have e : us = its.map keyOf := list_eq_of (by rw [hlen, esOf_size, List.length_map]) fun j v hj => by
      obtain ⟨p, q, rfl⟩ := ekey j v (hP j v hj)
      rw [List.getElem?_map, q]; rfl
    subst e
    rw [List.filter_eq_self.mpr (fun _ _ => rfl)] at hG
    exact hdone h' tk D ys os nD (push_none hD) hD' hG (fun q hq => ⟨(hos q hq).1, push_none (hos q hq).2.1, (hos q hq).2.2⟩)
      (fun c o hc e => k c o (fun q => Nat.ne_of_lt (Heap.lt_size e) (List.mem_singleton.mp q)) hc (Heap.get?_push_of_some _ e)) hE
end
end
theorem off_L2 : True := by
  w_top off
  k_with_none
  trivial
-- L2
section
open PySem PySem.W PyProof.Rows PySem.Calls
theorem ints_snoc_inv {vs : List Value} {v : Value} {ts : List Int} (h : IntsAre (vs ++ [v]) ts) : ∃ ts' z t, ts = ts' ++ [z] ∧ v = .int z t ∧ IntsAre vs ts' := by
  induction vs generalizing ts with
  | nil =>
    cases h with
    | cons z t r => cases r; exact ⟨[], z, t, rfl, rfl, .nil⟩
  | cons u r ih =>
    cases h with
    | cons z t q =>
      obtain ⟨ts', z', t', rfl, rfl, h'⟩ := ih q
      exact ⟨z :: ts', z', t', rfl, rfl, .cons z t h'⟩
theorem RowsAt.snoc {h : Heap} {vs : List Value} {rs : List (Str × Str)} {a : Addr} {x y : Str} {tx ty : Tok} (r : RowsAt h vs rs) (e : h.get? a = some (rowObj x y tx ty)) : RowsAt h (vs ++ [.ref a]) (rs ++ [(x, y)]) := by
  induction r with
  | nil => exact .cons a x y tx ty e .nil
  | cons b p q tp tq eb _ ih => exact .cons b p q tp tq eb ih
theorem rows_at {h : Heap} {tvs ys : List Value} {os : List (Addr × Obj)} (x : GL (fun v y os => ∃ i t a tx ty, v = .int i t ∧ y = .ref a ∧ os = [(a, rowObj (nameOf i) (valOf i) tx ty)]) tvs ys os) :
    ∀ {ts : List Int}, IntsAre tvs ts → (∀ q ∈ os, h.get? q.1 = some q.2) → RowsAt h ys (ts.map fun z => (nameOf z, valOf z)) := by
  induction x with
  | nil => intro ts hi _; cases hi; exact .nil
  | snoc r hg ih =>
    intro ts hi ho
    obtain ⟨ts', z, t, rfl, rfl, hi'⟩ := ints_snoc_inv hi
    obtain ⟨i, t', a, tx, ty, e, rfl, rfl⟩ := hg
    cases e
    rw [List.map_append, List.map_singleton]
    exact (ih hi' fun q hq => ho q (List.mem_append_left _ hq)).snoc (ho (a, rowObj (nameOf z) (valOf z) tx ty) (by simp))
section
variable {g h h' : Heap} {L : Addr} {m : Str → Option Value}
theorem news_os {os : List (Addr × Obj)} (F : Fr g L h m) (k : ∀ q ∈ os, h'.get? q.1 = some q.2 ∧ h.get? q.1 = none) : News g L h' os := fun p hp => by
  refine ⟨(k p hp).1, fun q => ?_, ?_⟩
  · obtain ⟨oL, es, ep, hL, _⟩ := F.ns
    have q' : p.1 = L := q
    have := (k p hp).2
    rw [q', hL] at this; cases this
  · cases q : g.get? p.1 with
    | none => rfl
    | some z => have := F.keep _ _ q; rw [(k p hp).2] at this; cases this
theorem ne_of_fresh {a b : Addr} {o : Obj} (fr : h.get? a = none) (e : h.get? b = some o) : a ≠ b := fun q => by rw [q, e] at fr; cases fr
/-- a call that turned the law's own frame, and the objects D -/
theorem law_turn {D : List Addr} (F : Fr g L h m) (hD : ∀ d ∈ D, g.get? d = none ∧ d ≠ L) (k : ∀ a o, a ∉ D → h.get? a = some o → (a ∉ [L] → h'.get? a = some o) ∧ ∃ sl, h'.get? a = some { o with slots := sl }) :
    Fr g L h' m ∧ ∀ a o, a ∉ D → a ≠ L → h.get? a = some o → h'.get? a = some o := by
  refine ⟨⟨?_, fun b o e => ?_, F.above⟩, fun a o n l e => (k a o n e).1 (by simpa using l)⟩
  · obtain ⟨oL, es, ep, hL, hd, r⟩ := F.ns
    obtain ⟨sl, e⟩ := (k L oL (fun q => (hD L q).2 rfl) hL).2
    exact ⟨{ oL with slots := sl }, es, ep, e, hd, r⟩
  · exact (k b o (fun q => by rw [(hD b q).1] at e; cases e) (F.keep _ _ e)).1 (by rw [List.mem_singleton]; intro q; rw [q, fr_none F] at e; cases e)
end
theorem find_self : ∀ {its : List BItem} {p : BItem}, (its.map (·.1)).Nodup → p ∈ its → its.find? (fun q => decide (p.1 = q.1)) = some p
  | [], _, _, h => by cases h
  | q :: r, p, n, h => by
    rw [List.map_cons, List.nodup_cons] at n
    rcases List.mem_cons.mp h with rfl | h
    · rw [List.find?_cons, decide_eq_true rfl]
    · have : ¬ p.1 = q.1 := fun e => n.1 (e ▸ List.mem_map_of_mem h)
      rw [List.find?_cons, decide_eq_false this]
      exact find_self n.2 h
theorem book_keys {its : List BItem} {key : Int → Str} {xs : List Int} {os : List (Addr × Obj)} (B : BItems its (bookFrom key [] 0 xs) os) : (its.map (·.1)).Nodup := by
  rw [B.keys, bookFrom_is, List.map_map]
  have : ((fun q : Str × List Int => q.1) ∘ fun y => (y, pints (xs.map fun z => decide (key z = y)))) = id := rfl
  rw [this, List.map_id]
  exact wordsOf_nodup _
theorem datAll_of {news : List (Addr × Obj)} : ∀ {ys : List Value} {ds : List Dat}, ys.length = ds.length → (∀ (i : Nat) v d, ys[i]? = some v → ds[i]? = some d → DatIn news v d) → DatAll news ys ds
  | [], [], _, _ => .nil
  | [], _ :: _, h, _ => by cases h
  | _ :: _, [], h, _ => by cases h
  | v :: ys, d :: ds, h, k => .cons (k 0 v d rfl rfl) (datAll_of (by simpa using h) fun i v d h1 h2 => k (i + 1) v d (by simpa using h1) (by simpa using h2))
theorem BItems.at {its bk os} (x : BItems its bk os) : ∀ {i : Nat} {p : BItem}, its[i]? = some p → ∃ ns vs n, bk[i]? = some (p.1, ns) ∧ (p.2.2, W.listOf (List.toArray vs) n) ∈ os ∧ IntsAre vs ns := by
  induction x with
  | nil => intro i p h; cases h
  | cons y t a vs n ns hv r ih =>
    intro i p h
    cases i with
    | zero => cases h; exact ⟨ns, vs, n, rfl, .head _, hv⟩
    | succ i =>
      obtain ⟨ns', vs', n', e1, e2, e3⟩ := ih (by simpa using h)
      exact ⟨ns', vs', n', by simpa using e1, .tail _ e2, e3⟩
/-- a book, walked and read -/
theorem book_dat {its : List BItem} {bk : Book} {os ob : List (Addr × Obj)} {ys : List Value} (B : BItems its bk ob) (x : GL (fun v y os => ∃ p a, v = keyOf p ∧ p ∈ its ∧ y = .ref a ∧ os = [(a, dueTup p.1 p.2.1 p.2.2)]) (its.map keyOf) ys os) (nk : (its.map (·.1)).Nodup) :
    DatAll (os ++ ob) ys (bk.map fun q => entryD q.1 q.2) := by
  have hl := x.length
  rw [List.length_map] at hl
  refine datAll_of (by rw [hl, List.length_map, B.len.1]) fun i v d h1 h2 => ?_
  have hi : i < its.length := by have := (List.getElem?_eq_some_iff.mp h1).1; omega
  have hp : its[i]? = some its[i] := List.getElem?_eq_getElem hi
  obtain ⟨ns, vs, n, e1, e2, e3⟩ := B.at hp
  obtain ⟨y, o, f1, ⟨p, a, ek, hpm, rfl, rfl⟩, f3⟩ := gl_at x (i := i) (v := keyOf its[i]) (by rw [List.getElem?_map, hp]; rfl)
  rw [h1] at f1; cases f1
  have ek1 : its[i].1 = p.1 := by injection ek
  have ep : its[i] = p := by
    have s1 := find_self nk (List.getElem_mem hi)
    have s2 := find_self nk hpm
    rw [ek1, s2] at s1
    exact (Option.some.inj s1).symm
  rw [ep] at e1 e2
  rw [List.getElem?_map, e1] at h2
  cases h2
  exact entry_in (List.mem_append_left _ (f3 _ (.head _))) (List.mem_append_right _ e2) e3
theorem book_lens (zs : List Int) : (bookFrom nameOf [] 0 (takenOf zs)).length = (wordsOf ((rowsOf zs).map (sideOf 0))).length ∧ (bookFrom valOf [] 0 (takenOf zs)).length = (wordsOf ((rowsOf zs).map (sideOf 1))).length := by
  rw [bookFrom_is, bookFrom_is, List.length_map, List.length_map]
  constructor
  · unfold rowsOf; rw [List.map_map]; rfl
  · unfold rowsOf; rw [List.map_map]; rfl
theorem idx_count {w : World} {zs : List Int} {nt : Addr} {h h' : Heap} {fs : List Addr} {r : IdxRes} {o0 o1 : List (Addr × Obj)} {y0 y1 : List Value} (I : IdxOk w zs nt h h' fs r) (d0 : DueIn o0 (rowsOf zs) 0 (wordsOf ((rowsOf zs).map (sideOf 0))) y0) (d1 : DueIn o1 (rowsOf zs) 1 (wordsOf ((rowsOf zs).map (sideOf 1))) y1) :
    r.ns.size = y0.length + y1.length ∧ y0.length ≤ (takenOf zs).length ∧ y1.length ≤ (takenOf zs).length := by
  have l1 := I.B1.len.1
  have l2 := I.B2.len.1
  have hs := I.hs
  have b := book_lens zs
  have e0 := d0.1
  have e1 := d1.1
  have k1 := bookFrom_len (key := nameOf) (xs := takenOf zs) (bk := []) (i := 0)
  have k2 := bookFrom_len (key := valOf) (xs := takenOf zs) (bk := []) (i := 0)
  simp only [List.length_nil] at k1 k2
  omega
section
variable {prog : Program} {w : World} {A : Around} {E : Value → Shared → Prop} {s : Shared} {h₀ : Heap} {L a b : Addr} {news : List (Addr × Obj)} {oa ob : Obj} {xs ys : List Value} {ka kb : Nat} {ds : List Dat} {Q : Value → Shared → Prop}
open Classical in
theorem kqd_same (N : News h₀ L s.heap news) (ma : (a, oa) ∈ news) (ca : oa.cls = .type "list") (da : oa.data = .seq xs.toArray ka) (Da : DatAll news xs ds)
    (mb : (b, ob) ∈ news) (cb : ob.cls = .type "list") (db : ob.data = .seq ys.toArray kb) (Db : DatAll news ys ds)
    (ha : ∀ d ∈ ds, kqdOk 8 d = true) (hu : A.units + 64 < cLine) (h : Q (.bool true) s) : wpAny (model prog w) A (compareOp .Eq (.ref a) (.ref b)) Q E s :=
  kqd_eq N ma ca da Da (fun _ q => q) mb cb db Db (fun _ q => q) ha ha hu (by rw [decide_eq_true rfl]; exact h)
end
end
theorem off_LW : True := by
  w_top off
  k_with_none
  trivial
-- LW
section
open PySem PySem.W PyProof.Rows PySem.Calls
theorem kw_LW_1 : True := by
  k_with_none
  k_with "loadName" => (k_here; k_dflt (refine' ld_any ?z_F ?z_L ?z_v ?_ ?z_a ?z_b; (case z_a => rfl); (case z_b => rfl); (case z_F => k_asm); (case z_L => rfl); (case z_v => first | assumption | rfl); k_whole))
  k_with "eval Name" => (k_here; k_dflt (first | (refine' nm_local ?z_F ?z_L ?z_v ?_ ?z_a ?z_b; (case z_a => rfl); (case z_b => rfl); (case z_F => k_asm); (case z_L => rfl); (case z_v => first | assumption | rfl); k_whole) | (refine' nm_cellN ?z_N ?z_c ?z_o ?z_d ?_ ?z_a ?z_b; (case z_a => rfl); (case z_b => rfl); (case z_N => k_asm); (case z_c => rfl); (case z_o => k_mem); (case z_d => assumption); k_whole) | (refine' nm_cell ?z_F ?z_c ?z_o ?z_d ?_ ?z_a ?z_b; (case z_a => rfl); (case z_b => rfl); (case z_F => k_asm); (case z_c => rfl); (case z_o => assumption); (case z_d => assumption); k_whole)))
  k_with "mytree" => ((first | (with_reducible show wpAny _ _ _ _ _ _) | (with_reducible show ite _ _ _)); (fail_if_success (with_reducible show wpAny _ _ (PySem.call (PySem.Value.builtin "len") _) _ _ _)); (fail_if_success (with_reducible show wpAny _ _ (eval (PySem.Expr.ListComp _ _ _ _) _) _ _ _)); (fail_if_success (with_reducible show wpAny _ _ (exec (PySem.Stmt.Assign _ (PySem.Expr.ListComp _ _ _ _) _) _) _ _ _)); (fail_if_success (with_reducible show wpAny _ _ (PySem.newTuple _) _ _ _)); (fail_if_success (with_reducible show wpAny _ _ (PySem.call (PySem.Value.ref _) _) _ _ _)); (fail_if_success (with_reducible show wpAny _ _ (PySem.subscriptTail _ _ (PySem.Value.ref _) _) _ _ _)); (fail_if_success (with_reducible show wpAny _ _ (PySem.compareOp _ _ (PySem.Value.ref _)) _ _ _)); (fail_if_success (with_reducible show wpAny _ _ (exec (PySem.Stmt.If _ _ _ _) _) _ _ _)))
  k_with "mygo" => (repeat' (first | (k_unfold; (try dsimp only)) | (walk_at "mytree"; walk1) | (dsimp only; walk_at "mytree"; walk1) | fail "no step"))
  trivial
section
variable {w : World} {A : Around} {s : Shared} {hb : Heap} {loose : List Str} {mean : ExcName → Option Value} {mg mb : Str → Option Value} {R : Result → Shared → Prop}
theorem law_spec (X : (hd.heap_1 w.params).In hb) (T : Top topProg loose mean mg mb hb) (S : hb.StaysIn s.heap) (CH : CodeHd hb 104 100) (CL : CodeHd hb 240 236) (hl1 : Str.ofString "TypeError" ∉ loose) (hl2 : Str.ofString "TypeError" ∉ (clssOf topProg loose).map (·.name))
    (hl3 : Str.ofString "IndexError" ∉ loose) (hl4 : Str.ofString "IndexError" ∉ (clssOf topProg loose).map (·.name)) {ls : Addr} {svs : List Value} {szs : List Int} (hls : hb.IsList ls svs.toArray) (hsi : IntsAre svs szs) (hsl : szs.length ≤ 63)
    (hP : s.heap.get? 100 = some (tabObj #[])) (hPb : hb.get? 100 = none) (hQ : s.heap.get? 236 = some (tabObj #[])) (hQb : hb.get? 236 = none)
    (k : ∀ h' tk, hb.StaysIn h' → (∃ ps, h'.get? 100 = some (tabObj ps)) → (∃ ps, h'.get? 236 = some (tabObj ps)) → R (.ok (.ret (.bool true))) { s with heap := h', toks := tk }) :
    codeC (model Challenge.rw_mq0106_01.row.prog w) callerA (.call (.ref 275) ⟨[.ref ls], []⟩) R s := by
  revert X; k_fill; intro X
  refine' enterQ (binds := [(PySem.Str.ofString "script", Value.ref ls)]) X T S [(100, tabObj #[]), (236, tabObj #[])] (by intro q hq; simp only [List.mem_cons, List.not_mem_nil, or_false] at hq; rcases hq with rfl | rfl; exact ⟨hP, hPb⟩; exact ⟨hQ, hQb⟩) ?k6 ?k7 ?k8 ?k9 ?kB ?_ ?c2 ?c3 ?c4 ?c5
  case k6 => k_is
  case k7 => k_is
  case k8 => k_room
  case k9 => exact BindsTo.of_eq rfl
  case kB => exact locs rfl
  case c2 => decide
  case c3 => exact rfl
  case c4 => exact rfl
  case c5 => exact rfl
  intro g' L' h' F' N' X' T' S' hg' hL' hl'
  (try dsimp only)
  have hlsg : g'.IsList ls svs.toArray := hls.at fun o e => S' _ _ e
  refine c_execs_cons (c_any ?_)
  k_fold
  walk_at "mygo"
  rename Fr g' L' _ _ => F1'
  rename News g' L' _ _ => N1'
  rename_i l6 _ lt6 l8 v8 _ i8 c8 z8 lt8 ln vs _ hvs ltn h1
  obtain ⟨m1, em1, F1⟩ := fr_some F1'
  have mn1 : m1 "numbers" = some (.ref ln) := by rw [em1]; rfl
  have N1 : News g' L' h1 [(ln, listOf vs.toArray 0), (100, tabObj #[]), (236, tabObj #[])] := news_sub N1' fun q hq => by
    simp only [List.mem_cons, List.not_mem_nil, or_false] at hq ⊢
    rcases hq with h | h | h <;> simp [h]
  clear F1' N1' em1
  have zlen : ([6, 784, 984, 1511, 1809, 2572] ++ List.take 8 szs).length ≤ 14 := by rw [List.length_append, c8]; simp; omega
  generalize hzs : ([6, 784, 984, 1511, 1809, 2572] ++ List.take 8 szs : List Int) = zs at hvs zlen
  have vlen := ints_len hvs
  refine c_execs_cons (c_any ?_)
  refine' comp_assign (m := m1) (cl := []) (fun v => match v with | .int i _ => !isBad i | _ => false) (fun v y os => y = v ∧ os = []) ?a1 ?a2 ?a3 ?a4 ?a5 ?a6 ?a7 ?a8 ?a9 ?aa
  case a1 => exact rfl
  case a2 => exact rfl
  case a3 => decide
  case a4 => exact rfl
  case a5 => decide
  case a6 => exact rfl
  case a7 => exact rfl
  case a8 => exact rfl
  case aa => exact fun _ => rfl
  walk_at "mygo"
  refine' need_listP (P := fun h => h.Ns L' m1) (fun h' k => F1.ns.at' fun o e => k _ o e) ?b1 (l := ln) (vs := vs) ⟨_, News.get N1 (.head _), rfl, 0, rfl⟩ (by omega) (fun b hb => by rw [List.mem_singleton.mp hb]; obtain ⟨o, _, _, e, _⟩ := F1.ns; exact ⟨o, e⟩) ?bt ?be ?bd
  case b1 => rfl
  case bt =>
    intro C i v h tk E' m' hi F hm
    dsimp only at F ⊢
    obtain ⟨t, e⟩ := ints_at hvs (i := i) (by have := (List.getElem?_eq_some_iff.mp hi).1; omega)
    rw [hi] at e; cases e
    generalize zs.getD i 0 = z at hm
    refine wpAny_tests_one ?_
    walk_at "mygo"
    exact ⟨rfl, _, _, rfl, fun _ _ e => e⟩
  case be =>
    intro C i v h tk E' m' hi hp F hm
    dsimp only at F ⊢
    walk_at "mygo"
    exact ⟨⟨_, _, rfl, fun _ _ e => e⟩, [], ⟨rfl, rfl⟩, fun q hq => nomatch hq⟩
  case bd =>
    intro h2 tk2 lt ys2 os2 n2 hD2 hD2' hG2 hos2 kp2 hE2
    obtain ⟨rfl, rfl⟩ := gl_ints (fun _ _ _ x => x) hG2
    dsimp only at hD2 kp2 hE2 ⊢
    have ivt : IntsAre (vs.filter _) (takenOf zs) := intsAre_filter (p := fun v => match v with | .int i _ => !isBad i | _ => false) (q := fun z => !isBad z) (fun _ _ => rfl) hvs
    have F2' := fr_map F1 kp2 hE2
    have N2 := news_new F1 (news_map N1 kp2) hD2 hD2'
    clear F1 N1
    generalize List.filter _ vs = tvs at ivt N2
    obtain ⟨m2, em2, F2⟩ := fr_some F2'
    have mn2 : m2 "numbers" = some (.ref ln) := by rw [em2]; exact mn1
    have mt2 : m2 "taken" = some (.ref lt) := by rw [em2]; rfl
    clear F2' em2 mn1
    have tlen : (takenOf zs).length ≤ 14 := Nat.le_trans (List.length_filter_le _ _) zlen
    have tvlen := ints_len ivt
    have X2 := X'.keeps F2.keep
    have T2 : Top topProg loose mean mg mb h2 := T'.keeps F2.keep
    refine c_execs_cons (c_any ?_)
    refine' comp_assign (m := m2) (cl := []) (fun _ => true) (fun v y os => ∃ i t a tx ty, v = .int i t ∧ y = .ref a ∧ os = [(a, rowObj (nameOf i) (valOf i) tx ty)]) ?ra1 ?ra2 ?ra3 ?ra4 ?ra5 ?ra6 ?ra7 ?ra8 ?ra9 ?raa
    case ra1 => exact rfl
    case ra2 => exact rfl
    case ra3 => decide
    case ra4 => exact rfl
    case ra5 => decide
    case ra6 => exact rfl
    case ra7 => exact rfl
    case ra8 => exact rfl
    case raa => exact fun _ => rfl
    walk_at "mygo"
    refine' need_listP (P := fun h => h.Ns L' m2) (fun h' k => F2.ns.at' fun o e => k _ o e) ?c1 (l := lt) (vs := tvs) ⟨_, News.get N2 (.head _), rfl, _, rfl⟩ (by omega) (fun b hb => by rw [List.mem_singleton.mp hb]; obtain ⟨o, _, _, e, _⟩ := F2.ns; exact ⟨o, e⟩) ?ct ?ce ?cd
    case c1 => rfl
    case ct =>
      intro C i v h tk E' m' hi F hm
      exact wpAny_pure ⟨rfl, _, _, rfl, fun _ _ e => e⟩
    case ce =>
      intro C i v h tk E' m' hi hp F hm
      dsimp only at F ⊢
      obtain ⟨t, e⟩ := ints_at ivt (i := i) (by have := (List.getElem?_eq_some_iff.mp hi).1; omega)
      rw [hi] at e; cases e
      generalize (takenOf zs).getD i 0 = z at hm
      walk_at "mygo"
      refine wpAny_call (words_spec X T (fun a o e => F.keep _ _ (F2.keep _ _ (S' _ _ e))) (by k_room) fun h5 tk5 a5 vs5 kp5 fr5 ea5 hs5 => ?_)
      have F5 := fr_kp0 F kp5
      have N5 := news_new F (news := []) (fun q hq => nomatch hq) fr5 ea5
      clear F
      dsimp only
      walk_at "mygo"
      refine item_words N5 (.head _) hs5 (by rw [fm3]; omega) (by rw [fm3]; omega) fun t5 => ?_
      walk_at "mygo"
      (try refine ⟨X2.keeps F5.keep, ?_⟩)
      refine wpAny_call (words_spec X T (fun a o e => F5.keep _ _ (F2.keep _ _ (S' _ _ e))) (by k_room) fun h6 tk6 a6 vs6 kp6 fr6 ea6 hs6 => ?_)
      have F6 := fr_kp0 F5 kp6
      have N6 := news_new F5 (news := []) (fun q hq => nomatch hq) fr6 ea6
      dsimp only at kp5 kp6
      have up6 : ∀ a o, h.get? a = some o → h6.get? a = some o := fun a o e => kp6 a o (by simp) (kp5 a o (by simp) e)
      clear F5 N5
      dsimp only
      walk_at "mygo"
      refine item_words N6 (.head _) hs6 (by rw [fm3]; omega) (by rw [fm3]; omega) fun t6 => ?_
      walk_at "mygo"
      refine wpAny_newTuple ?_
      refine ⟨⟨_, _, rfl, fun a o e => Heap.get?_push_of_some _ (up6 a o e)⟩, _, ⟨z, t, _, t5, t6, rfl, rfl, rfl⟩, fun q hq => ?_⟩
      rw [List.mem_singleton.mp hq]
      refine ⟨?_, Heap.get?_push_size _ rfl⟩
      cases q : h.get? h6.objs.size with
      | none => rfl
      | some o => exact absurd (Heap.lt_size (up6 _ _ q)) (Nat.lt_irrefl _)
    case cd =>
      intro h3 tk3 lr ys3 os3 n3 hD3 hD3' hG3 hos3 kp3 hE3
      dsimp only at hD3 kp3 hE3 hos3 ⊢
      rw [List.filter_eq_self.mpr (fun _ _ => rfl)] at hG3
      have hrw3 : RowsAt h3 ys3 (rowsOf zs) := rows_at hG3 ivt fun q hq => (hos3 q hq).1
      have F3' := fr_map F2 kp3 hE3
      have e100 := News.get N2 (.tail _ (.tail _ (.head _)))
      have e236 := News.get N2 (.tail _ (.tail _ (.tail _ (.head _))))
      have lrln : lr ≠ ln := ne_of_fresh hD3 (News.get N2 (.tail _ (.head _)))
      have lr100 : lr ≠ 100 := ne_of_fresh hD3 e100
      have lr236 : lr ≠ 236 := ne_of_fresh hD3 e236
      have ap3 : ∀ q ∈ os3, q.1 ≠ 100 ∧ q.1 ≠ 236 := fun q hq => ⟨ne_of_fresh (hos3 q hq).2.1 e100, ne_of_fresh (hos3 q hq).2.1 e236⟩
      have N3 : News g' L' h3 ((lr, listOf ys3.toArray n3) :: (ln, listOf vs.toArray 0) :: (100, tabObj #[]) :: (236, tabObj #[]) :: os3) := news_new F2 (news_app (l₁ := [(ln, listOf vs.toArray 0), (100, tabObj #[]), (236, tabObj #[])]) (news_sub (news_map N2 kp3) fun q hq => .tail _ hq) (news_os F2 fun q hq => ⟨(hos3 q hq).1, (hos3 q hq).2.1⟩)) hD3 hD3'
      have rlen : (rowsOf zs).length ≤ 14 := by rw [List.length_map]; exact tlen
      have ylen3 : ys3.length = (rowsOf zs).length := hrw3.len
      clear F2 N2 X2 T2
      obtain ⟨m3, em3, F3⟩ := fr_some F3'
      have mn3 : m3 "numbers" = some (.ref ln) := by rw [em3]; exact mn2
      have mr3 : m3 "rows" = some (.ref lr) := by rw [em3]; rfl
      clear F3' em3 mn2 mt2
      refine c_execs_cons (c_any ?_)
      walk_at "mygo"
      refine ⟨X'.keeps F3.keep, ?_⟩
      refine wpAny_call (due_spec X T (fun a o e => F3.keep _ _ (S' _ _ e)) (by k_room) rfl hD3' hrw3 (.inl rfl) (by omega) fun h4 tk4 D0 y0 n0 o0 kp4 fr4 e4 ho4 hd4 => ?_)
      have F4 := fr_kp0 F3 kp4
      have N4 : News g' L' h4 ((D0, listOf y0.toArray n0) :: (lr, listOf ys3.toArray n3) :: (ln, listOf vs.toArray 0) :: (100, tabObj #[]) :: (236, tabObj #[]) :: (o0 ++ os3)) := news_new F3 (news_app (l₁ := [(lr, listOf ys3.toArray n3), (ln, listOf vs.toArray 0), (100, tabObj #[]), (236, tabObj #[])]) (news_sub (news_kp0 N3 kp4) fun q hq => by
        simp only [List.mem_cons, List.not_mem_nil, or_false] at hq
        rcases hq with rfl | rfl | rfl | rfl
        · exact .head _
        · exact .tail _ (.head _)
        · exact .tail _ (.tail _ (.head _))
        · exact .tail _ (.tail _ (.tail _ (.head _)))) (news_app (news_os F3 fun q hq => ⟨(ho4 q hq).1, (ho4 q hq).2.1⟩) (news_sub (news_kp0 N3 kp4) fun q hq => .tail _ (.tail _ (.tail _ (.tail _ hq)))))) fr4 e4
      have e100 := News.get N3 (.tail _ (.tail _ (.head _)))
      have e236 := News.get N3 (.tail _ (.tail _ (.tail _ (.head _))))
      have ap4 : ∀ q ∈ o0, q.1 ≠ 100 ∧ q.1 ≠ 236 := fun q hq => ⟨ne_of_fresh (ho4 q hq).2.1 e100, ne_of_fresh (ho4 q hq).2.1 e236⟩
      have D0100 : D0 ≠ 100 := ne_of_fresh fr4 e100
      have D0236 : D0 ≠ 236 := ne_of_fresh fr4 e236
      have hrw4 := hrw3.keeps fun a o e _ => kp4 a o (by simp) e
      have elr4 := News.get N4 (.tail _ (.head _))
      clear F3 N3
      dsimp only
      walk_at "mygo"
      (try refine ⟨X'.keeps F4.keep, ?_⟩)
      refine wpAny_call (due_spec X T (fun a o e => F4.keep _ _ (S' _ _ e)) (by k_room) rfl elr4 hrw4 (.inr rfl) (by omega) fun h5 tk5 D1 y1 n1 o1 kp5 fr5 e5 ho5 hd5 => ?_)
      have F5 := fr_kp0 F4 kp5
      have N5 : News g' L' h5 ((D1, listOf y1.toArray n1) :: (D0, listOf y0.toArray n0) :: (lr, listOf ys3.toArray n3) :: (ln, listOf vs.toArray 0) :: (100, tabObj #[]) :: (236, tabObj #[]) :: (o1 ++ (o0 ++ os3))) := news_new F4 (news_app (l₁ := [(D0, listOf y0.toArray n0), (lr, listOf ys3.toArray n3), (ln, listOf vs.toArray 0), (100, tabObj #[]), (236, tabObj #[])]) (news_sub (news_kp0 N4 kp5) fun q hq => by
        simp only [List.mem_cons, List.not_mem_nil, or_false] at hq
        rcases hq with rfl | rfl | rfl | rfl | rfl
        · exact .head _
        · exact .tail _ (.head _)
        · exact .tail _ (.tail _ (.head _))
        · exact .tail _ (.tail _ (.tail _ (.head _)))
        · exact .tail _ (.tail _ (.tail _ (.tail _ (.head _))))) (news_app (news_os F4 fun q hq => ⟨(ho5 q hq).1, (ho5 q hq).2.1⟩) (news_sub (news_kp0 N4 kp5) fun q hq => .tail _ (.tail _ (.tail _ (.tail _ (.tail _ hq))))))) fr5 e5
      have e100 := News.get N4 (.tail _ (.tail _ (.tail _ (.head _))))
      have e236 := News.get N4 (.tail _ (.tail _ (.tail _ (.tail _ (.head _)))))
      have ap5 : ∀ q ∈ o1, q.1 ≠ 100 ∧ q.1 ≠ 236 := fun q hq => ⟨ne_of_fresh (ho5 q hq).2.1 e100, ne_of_fresh (ho5 q hq).2.1 e236⟩
      have D1100 : D1 ≠ 100 := ne_of_fresh fr5 e100
      have D1236 : D1 ≠ 236 := ne_of_fresh fr5 e236
      have hrw5 := hrw4.keeps fun a o e _ => kp5 a o (by simp) e
      clear F4 N4
      dsimp only
      walk_at "mygo"
      refine c_execs_cons (c_any ?_)
      walk_at "mygo"
      rename Fr g' L' _ _ => F6'
      rename News g' L' _ _ => N6
      rename_i ld _ ltd _ nt _ ltn' h6
      obtain ⟨m6, em6, F6⟩ := fr_some F6'
      have mn6 : m6 "numbers" = some (.ref ln) := by rw [em6]; exact mn3
      have mr6 : m6 "rows" = some (.ref lr) := by rw [em6]; exact mr3
      have md6 : m6 "due" = some (.ref ld) := by rw [em6]; rfl
      have mo6 : m6 "notes" = some (.ref nt) := by rw [em6]; rfl
      clear F6' em6 mn3 mr3
      refine c_execs_cons (c_Assign_Tuple (c_Call (c_any ?_)))
      walk_at "mygo"
      refine c_callPlain (P := (hd.heap_1 w.params).In) (keeps_K (K := hd.heap_1 w.params) ?kk) ?_
      case kk => k_is
      walk_at "mygo"
      have a1 : ∀ p ∈ o1 ++ (o0 ++ os3), p.1 ≠ nt := fun p hp => Nat.ne_of_lt (tb_ltOf ltn'.2.2.2.2.2.2.2 p hp)
      have hnb : hb.get? nt = none := hb_none S' N6 (.head _)
      have e6n := News.get N6 (.head _)
      have e6l := News.get N6 (.tail _ (.tail _ (.tail _ (.tail _ (.tail _ (.head _))))))
      have e6100 := News.get N6 (.tail _ (.tail _ (.tail _ (.tail _ (.tail _ (.tail _ (.head _)))))))
      have e6236 := News.get N6 (.tail _ (.tail _ (.tail _ (.tail _ (.tail _ (.tail _ (.tail _ (.head _))))))))
      refine ⟨X'.keeps F6.keep, c_call ?_⟩
      refine index_try X T (fun a o e => F6.keep _ _ (S' _ _ e)) CH CL (by k_room) rfl hl1 hl2 (Stk.push (outer := []) ⟨rfl, fun e he => (nomatch he), fun b hb => (nomatch hb)⟩ F6 S' rfl (fun q => by cases q)) e6l hvs e6n hnb e6100 hPb e6236 hQb (by omega) (Nat.ne_of_lt ltn'.2.2.2.2.1) ?_
      intro h7 tk7 tb r I fr7 e7
      dsimp only
      have lt' := ltn'
      have LT := law_turn (D := [nt, 100, 236]) F6 (fun d hd => by
        simp only [List.mem_cons, List.not_mem_nil, or_false] at hd
        rcases hd with rfl | rfl | rfl
        · exact ⟨(N6 _ (.head _)).2.2, (N6 _ (.head _)).2.1⟩
        · exact ⟨(N6 _ (.tail _ (.tail _ (.tail _ (.tail _ (.tail _ (.tail _ (.head _)))))))).2.2, (N6 _ (.tail _ (.tail _ (.tail _ (.tail _ (.tail _ (.tail _ (.head _)))))))).2.1⟩
        · exact ⟨(N6 _ (.tail _ (.tail _ (.tail _ (.tail _ (.tail _ (.tail _ (.tail _ (.head _))))))))).2.2, (N6 _ (.tail _ (.tail _ (.tail _ (.tail _ (.tail _ (.tail _ (.tail _ (.head _))))))))).2.1⟩) I.old
      obtain ⟨F7, K7⟩ := LT
      have NR := news_os F6 (h' := h7) (os := resLed w r) fun p hp => ⟨(I.new p hp).2, (I.new p hp).1⟩
      have apO : ∀ p ∈ (ld, listOf #[.ref D0, .ref D1] 0) :: (D1, listOf y1.toArray n1) :: (D0, listOf y0.toArray n0) :: (lr, listOf ys3.toArray n3) :: (ln, listOf vs.toArray 0) :: (o1 ++ (o0 ++ os3)), p.1 ∉ [nt, 100, 236] ∧ p ∈ (nt, listOf #[] 0) :: (ld, listOf #[.ref D0, .ref D1] 0) :: (D1, listOf y1.toArray n1) :: (D0, listOf y0.toArray n0) :: (lr, listOf ys3.toArray n3) :: (ln, listOf vs.toArray 0) :: (100, tabObj #[]) :: (236, tabObj #[]) :: (o1 ++ (o0 ++ os3)) := by
        have nin : ∀ a : Addr, a ≠ nt → a ≠ 100 → a ≠ 236 → a ∉ [nt, 100, 236] := fun a h1 h2 h3 q => by
          simp only [List.mem_cons, List.not_mem_nil, or_false] at q
          rcases q with q | q | q
          · exact h1 q
          · exact h2 q
          · exact h3 q
        intro p hp
        rcases List.mem_cons.mp hp with rfl | hp
        · exact ⟨nin _ (Nat.ne_of_lt lt'.1) (Nat.ne_of_gt ltd.2.2.2.2.1) (Nat.ne_of_gt ltd.2.2.2.2.2.1), .tail _ (.head _)⟩
        rcases List.mem_cons.mp hp with rfl | hp
        · exact ⟨nin _ (Nat.ne_of_lt lt'.2.1) D1100 D1236, .tail _ (.tail _ (.head _))⟩
        rcases List.mem_cons.mp hp with rfl | hp
        · exact ⟨nin _ (Nat.ne_of_lt lt'.2.2.1) D0100 D0236, .tail _ (.tail _ (.tail _ (.head _)))⟩
        rcases List.mem_cons.mp hp with rfl | hp
        · exact ⟨nin _ (Nat.ne_of_lt lt'.2.2.2.1) lr100 lr236, .tail _ (.tail _ (.tail _ (.tail _ (.head _))))⟩
        rcases List.mem_cons.mp hp with rfl | hp
        · exact ⟨nin _ (Nat.ne_of_lt lt'.2.2.2.2.1) (Nat.ne_of_gt ltn.2.2.1) (Nat.ne_of_gt ltn.2.2.2), .tail _ (.tail _ (.tail _ (.tail _ (.tail _ (.head _)))))⟩
        refine ⟨nin _ (a1 p hp) ?_ ?_, .tail _ (.tail _ (.tail _ (.tail _ (.tail _ (.tail _ (.tail _ (.tail _ hp)))))))⟩
        · rcases List.mem_append.mp hp with hp | hp
          · exact (ap5 p hp).1
          · rcases List.mem_append.mp hp with hp | hp
            · exact (ap4 p hp).1
            · exact (ap3 p hp).1
        · rcases List.mem_append.mp hp with hp | hp
          · exact (ap5 p hp).2
          · rcases List.mem_append.mp hp with hp | hp
            · exact (ap4 p hp).2
            · exact (ap3 p hp).2
      have NO : News g' L' h7 ((ld, listOf #[.ref D0, .ref D1] 0) :: (D1, listOf y1.toArray n1) :: (D0, listOf y0.toArray n0) :: (lr, listOf ys3.toArray n3) :: (ln, listOf vs.toArray 0) :: (o1 ++ (o0 ++ os3))) := fun p hp => ⟨K7 p.1 p.2 (apO p hp).1 (N6 p (apO p hp).2).2.1 (N6 p (apO p hp).2).1, (N6 p (apO p hp).2).2⟩
      obtain ⟨T7, hT7⟩ : ∃ T : List (Addr × Obj), T = ((r.b1, bookObj r.x1 r.f1 (esOf w r.its1) r.ep1) :: (r.b2, bookObj r.x2 r.f2 (esOf w r.its2) r.ep2) :: (r.x1, frozenDict w r.fz1 r.t1) :: (r.x2, frozenDict w r.fz2 r.t2) :: (r.os1 ++ r.os2)) ++ (o1 ++ (o0 ++ os3)) := ⟨_, rfl⟩
      have N7 : News g' L' h7 ((nt, listOf r.ns r.cn) :: (100, tabObj r.ps1) :: (236, tabObj r.ps2) :: (r.lr, listOf r.rs r.cr) :: (r.lb, listOf #[.ref r.b1, .ref r.b2] 0) :: (ld, listOf #[.ref D0, .ref D1] 0) :: (D1, listOf y1.toArray n1) :: (D0, listOf y0.toArray n0) :: (lr, listOf ys3.toArray n3) :: (ln, listOf vs.toArray 0) :: T7) := by
        intro p hp
        rcases List.mem_cons.mp hp with rfl | hp
        · exact ⟨I.note, (N6 _ (.head _)).2⟩
        rcases List.mem_cons.mp hp with rfl | hp
        · exact ⟨I.tab1, (N6 _ (.tail _ (.tail _ (.tail _ (.tail _ (.tail _ (.tail _ (.head _)))))))).2⟩
        rcases List.mem_cons.mp hp with rfl | hp
        · exact ⟨I.tab2, (N6 _ (.tail _ (.tail _ (.tail _ (.tail _ (.tail _ (.tail _ (.tail _ (.head _))))))))).2⟩
        rcases List.mem_cons.mp hp with rfl | hp
        · exact NR _ (.head _)
        rcases List.mem_cons.mp hp with rfl | hp
        · exact NR _ (.tail _ (.head _))
        rcases List.mem_cons.mp hp with rfl | hp
        · exact NO _ (.head _)
        rcases List.mem_cons.mp hp with rfl | hp
        · exact NO _ (.tail _ (.head _))
        rcases List.mem_cons.mp hp with rfl | hp
        · exact NO _ (.tail _ (.tail _ (.head _)))
        rcases List.mem_cons.mp hp with rfl | hp
        · exact NO _ (.tail _ (.tail _ (.tail _ (.head _))))
        rcases List.mem_cons.mp hp with rfl | hp
        · exact NO _ (.tail _ (.tail _ (.tail _ (.tail _ (.head _)))))
        rw [hT7] at hp
        rcases List.mem_append.mp hp with hp | hp
        · exact NR _ (.tail _ (.tail _ hp))
        · exact NO _ (.tail _ (.tail _ (.tail _ (.tail _ (.tail _ hp)))))
      have F7ns := F7.ns
      refine kcp_assign rfl ⟨_, e7, rfl, _, rfl⟩ rfl rfl rfl F7.ns fun h8 tk8 hn8 hk8 => ?_
      have kp8 : Kp [L'] h7 h8 := fun a o n e => hk8 a o (fun q => n (List.mem_singleton.mpr q)) e
      have F8' := fr_map F7 kp8 hn8
      have N8 := news_map N7 kp8
      obtain ⟨m8, em8, F8⟩ := fr_some F8'
      have mn8 : m8 "numbers" = some (.ref ln) := by rw [em8]; exact mn6
      have mr8 : m8 "rows" = some (.ref lr) := by rw [em8]; exact mr6
      have md8 : m8 "due" = some (.ref ld) := by rw [em8]; exact md6
      have mo8 : m8 "notes" = some (.ref nt) := by rw [em8]; exact mo6
      have mb8 : m8 "books" = some (.ref r.lb) := by rw [em8]; rfl
      have mf8 : m8 "refused" = some (.ref r.lr) := by rw [em8]; rfl
      clear F8' em8 mn6 mr6 md6 mo6 N7 F7 F6 N6
      refine c_execs_cons (c_any ?_)
      refine wpAny_If ?_
      walk_at "mygo"
      have cnt := idx_count I hd4 hd5
      have elr8 : h8.get? r.lr = some (listOf r.rs.toList.toArray r.cr) := by have := News.get N8 (.tail _ (.tail _ (.tail _ (.head _)))); simpa using this
      refine' comp_eval (cl := []) (fun v => match v with | .int i _ => isBad i | _ => false) (fun v y os => y = v ∧ os = []) ?e1 ?e2 ?e3 ?e4 ?e5 ?e6
      case e1 => exact rfl
      case e2 => decide
      case e3 => exact rfl
      case e4 => decide
      case e5 => exact rfl
      walk_at "mygo"
      refine need_list rfl (l := ln) (vs := vs) ⟨_, News.get N8 (.tail _ (.tail _ (.tail _ (.tail _ (.tail _ (.tail _ (.tail _ (.tail _ (.tail _ (.head _)))))))))), rfl, _, rfl⟩ (by omega) (fun b hb => nomatch hb) ?f1 ?f2 ?f3
      case f1 =>
        intro C i v h tk E' m' hi F hm
        dsimp only at F ⊢
        obtain ⟨t, e⟩ := ints_at hvs (i := i) (by have := (List.getElem?_eq_some_iff.mp hi).1; omega)
        rw [hi] at e; cases e
        generalize zs.getD i 0 = z at hm
        refine wpAny_tests_one ?_
        walk_at "mygo"
        exact ⟨rfl, _, _, rfl, fun _ _ e => e⟩
      case f2 =>
        intro C i v h tk E' m' hi hp F hm
        dsimp only at F ⊢
        walk_at "mygo"
        exact ⟨⟨_, _, rfl, fun _ _ e => e⟩, [], ⟨rfl, rfl⟩, fun q hq => nomatch hq⟩
      case f3 =>
        intro h9 tk9 D9 ys9 os9 n9 hD9 hD9' hG9 hos9 kp9 hE9
        obtain ⟨rfl, rfl⟩ := gl_ints (fun _ _ _ x => x) hG9
        dsimp only at hD9 kp9 ⊢
        have iv9 : IntsAre (vs.filter _) (zs.filter isBad) := intsAre_filter (p := fun v => match v with | .int i _ => isBad i | _ => false) (q := fun z => isBad z) (fun _ _ => rfl) hvs
        have F9 := fr_kp0 F8 kp9
        have N9 := news_kp0 N8 kp9
        have elr9 := kp9 _ _ (by simp) elr8
        clear F8 N8
        walk_at "mygo"
        refine ne_one elr9 hD9' I.ir iv9 (by show 4 + 3 + 64 < cLine; decide) ?_
        walk_at "mygo"
        refine len_in N9 (l := nt) (xs := r.ns) (n := r.cn) (.head _) (by omega) fun tA tkA => ?_
        walk_at "mygo"
        refine len_in N9 (l := D0) (xs := y0.toArray) (n := n0) (.tail _ (.tail _ (.tail _ (.tail _ (.tail _ (.tail _ (.tail _ (.head _)))))))) (by rw [List.size_toArray]; omega) fun tB tkB => ?_
        walk_at "mygo"
        refine len_in N9 (l := D1) (xs := y1.toArray) (n := n1) (.tail _ (.tail _ (.tail _ (.tail _ (.tail _ (.tail _ (.head _))))))) (by rw [List.size_toArray]; omega) fun tC tkC => ?_
        walk_at "mygo"
        · rename _ ≠ _ => hq
          refine absurd ?_ hq
          simp only [List.size_toArray]
          omega
        dsimp only
        have ap9 : ∀ p ∈ (100, tabObj r.ps1) :: (236, tabObj r.ps2) :: (r.lr, listOf r.rs r.cr) :: (r.lb, listOf #[.ref r.b1, .ref r.b2] 0) :: (ld, listOf #[.ref D0, .ref D1] 0) :: (D1, listOf y1.toArray n1) :: (D0, listOf y0.toArray n0) :: (lr, listOf ys3.toArray n3) :: (ln, listOf vs.toArray 0) :: T7, p.1 ≠ nt := by
          have nO : ∀ p ∈ (ld, listOf #[.ref D0, .ref D1] 0) :: (D1, listOf y1.toArray n1) :: (D0, listOf y0.toArray n0) :: (lr, listOf ys3.toArray n3) :: (ln, listOf vs.toArray 0) :: (o1 ++ (o0 ++ os3)), p.1 ≠ nt := fun p hp q => (apO p hp).1 (by rw [q]; exact .head _)
          intro p hp
          rcases List.mem_cons.mp hp with rfl | hp
          · exact Nat.ne_of_lt lt'.2.2.2.2.2.1
          rcases List.mem_cons.mp hp with rfl | hp
          · exact Nat.ne_of_lt lt'.2.2.2.2.2.2.1
          rcases List.mem_cons.mp hp with rfl | hp
          · exact I.ne _ (.head _)
          rcases List.mem_cons.mp hp with rfl | hp
          · exact I.ne _ (.tail _ (.head _))
          rcases List.mem_cons.mp hp with rfl | hp
          · exact nO _ (.head _)
          rcases List.mem_cons.mp hp with rfl | hp
          · exact nO _ (.tail _ (.head _))
          rcases List.mem_cons.mp hp with rfl | hp
          · exact nO _ (.tail _ (.tail _ (.head _)))
          rcases List.mem_cons.mp hp with rfl | hp
          · exact nO _ (.tail _ (.tail _ (.tail _ (.head _))))
          rcases List.mem_cons.mp hp with rfl | hp
          · exact nO _ (.tail _ (.tail _ (.tail _ (.tail _ (.head _)))))
          rw [hT7] at hp
          rcases List.mem_append.mp hp with hp | hp
          · exact I.ne _ (.tail _ (.tail _ hp))
          · exact nO _ (.tail _ (.tail _ (.tail _ (.tail _ (.tail _ hp)))))
        refine c_execs_cons (c_any ?_)
        refine wpAny_If ?_
        walk_at "mygo"
        refine ⟨X'.keeps F9.keep, ?_⟩
        have up79 : ∀ a o, a ≠ L' → h7.get? a = some o → h9.get? a = some o := fun a o n e => kp9 a o (by simp) (kp8 a o (by simpa using n) e)
        have hL7 : ∃ o es ep, h7.get? L' = some o ∧ o.data = .dict es ep := by
          obtain ⟨oL, es, ep, hL, hd, _⟩ := F7ns
          exact ⟨oL, es, ep, hL, hd⟩
        have nL7 : ∀ p ∈ resLed w r, p.1 ≠ L' := fun p hp => (NR p hp).2.1
        have m3 : ∀ q ∈ os3, q ∈ T7 := fun q hq => by rw [hT7]; exact List.mem_append_right _ (List.mem_append_right _ (List.mem_append_right _ hq))
        have KS := fun (env : Env) (he : env.frame = some L') (hk : env.scope.kind ≠ .module) => Stk.push (A := callerA) (env := env) (outer := []) ⟨rfl, fun e he => (nomatch he), fun b hb => (nomatch hb)⟩ F9 S' he hk
        have Zn : ∀ p : Addr × Obj, p ∈ (100, tabObj r.ps1) :: (236, tabObj r.ps2) :: (r.lr, listOf r.rs r.cr) :: (r.lb, listOf #[.ref r.b1, .ref r.b2] 0) :: (ld, listOf #[.ref D0, .ref D1] 0) :: (D1, listOf y1.toArray n1) :: (D0, listOf y0.toArray n0) :: (lr, listOf ys3.toArray n3) :: (ln, listOf vs.toArray 0) :: T7 → h9.get? p.1 = some p.2 ∧ p.1 ≠ nt := fun p hp => ⟨(N9 p (.tail _ hp)).1, ap9 p hp⟩
        refine wpAny_call (answers_spec (c1 := ⟨r.b1, r.x1, r.f1, r.fz1, r.its1, r.ep1, r.t1⟩) (c2 := ⟨r.b2, r.x2, r.f2, r.fz2, r.its2, r.ep2, r.t2⟩) X T (fun a o e => F9.keep _ _ (S' _ _ e)) (by k_room) rfl (by show 4 + 3 ≤ 100; decide) hl3 hl4 (KS _ rfl (fun q => by cases q)) (vs := vs) (c := 0) (rvs := ys3) (rc := n3) (rws := rowsOf zs) (fun g hg Sg => ?hB) hvs (by omega) (by omega) (News.get N9 (.head _)) hnb (by omega) ?_)
        case hB =>
          refine ⟨Sg, (KS _ rfl (fun q => by cases q)).outs.keepsD (D := [nt]) (fun b hb o e es ep hd => ?_) fun b o n e => hg b o (by simpa using n) e, hg _ _ (Zn _ (.tail _ (.tail _ (.tail _ (.tail _ (.tail _ (.tail _ (.tail _ (.tail _ (.head _)))))))))).2 (Zn _ (.tail _ (.tail _ (.tail _ (.tail _ (.tail _ (.tail _ (.tail _ (.tail _ (.head _)))))))))).1, hg _ _ (Zn _ (.tail _ (.tail _ (.tail _ (.head _))))).2 (Zn _ (.tail _ (.tail _ (.tail _ (.head _))))).1, hg _ _ (Zn _ (.tail _ (.tail _ (.tail _ (.tail _ (.tail _ (.tail _ (.tail _ (.head _))))))))).2 (Zn _ (.tail _ (.tail _ (.tail _ (.tail _ (.tail _ (.tail _ (.tail _ (.head _))))))))).1, rows_at hG3 ivt fun q hq => ?_, I.book1 hL7 nL7 (fun a o n1 n2 e => hg a o n1 (up79 a o n2 e)) (fun p hp => hb_none S' NR hp) fun p hp q => ?_, I.book2 hL7 nL7 (fun a o n1 n2 e => hg a o n1 (up79 a o n2 e)) (fun p hp => hb_none S' NR hp) fun p hp q => ?_⟩
          · rw [List.mem_singleton] at hb
            rw [hb, News.get N9 (.head _)] at e
            cases e; cases hd
          · have := Zn q (.tail _ (.tail _ (.tail _ (.tail _ (.tail _ (.tail _ (.tail _ (.tail _ (.tail _ (m3 q hq))))))))))
            exact hg _ _ this.2 this.1
          · exact nL7 p hp (List.mem_singleton.mp q)
          · exact nL7 p hp (List.mem_singleton.mp q)
        intro h10 tk10 nsA cnA hold10 hnt10
        have LT10 := law_turn (D := [nt]) F9 (fun d hd => by rw [List.mem_singleton.mp hd]; exact ⟨(N9 _ (.head _)).2.2, (N9 _ (.head _)).2.1⟩) fun a o n e => hold10 a o (by simpa using n) e
        obtain ⟨F10, K10⟩ := LT10
        have N10 : News g' L' h10 ((100, tabObj r.ps1) :: (236, tabObj r.ps2) :: (r.lr, listOf r.rs r.cr) :: (r.lb, listOf #[.ref r.b1, .ref r.b2] 0) :: (ld, listOf #[.ref D0, .ref D1] 0) :: (D1, listOf y1.toArray n1) :: (D0, listOf y0.toArray n0) :: (lr, listOf ys3.toArray n3) :: (ln, listOf vs.toArray 0) :: T7) := fun p hp => ⟨K10 p.1 p.2 (by simpa using ap9 p hp) (N9 p (.tail _ hp)).2.1 (N9 p (.tail _ hp)).1, (N9 p (.tail _ hp)).2⟩
        clear F9 N9 KS
        dsimp only
        walk_at "mygo"
        dsimp only
        refine c_execs_cons (c_any ?_)
        walk_at "mygo"
        have X10 := X'.keeps F10.keep
        have hbk : ∀ (i : Nat) v, [Value.ref r.b1, Value.ref r.b2][i]? = some v → ∃ b dx lam its ep ob bk, v = .ref b ∧ h10.get? b = some (bookObj dx lam (esOf w its) ep) ∧ BItems its bk ob ∧ (its.map (·.1)).Nodup ∧ (b == sysModules) = false ∧ (∀ q ∈ ob, q ∈ T7) ∧ its.length ≤ 14 ∧ ((v = .ref r.b1 ∧ bk = bookFrom nameOf [] 0 (takenOf zs)) ∨ (v = .ref r.b2 ∧ bk = bookFrom valOf [] 0 (takenOf zs))) := by
          intro i v hi
          have k1 := bookFrom_len (key := nameOf) (xs := takenOf zs) (bk := []) (i := 0)
          have k2 := bookFrom_len (key := valOf) (xs := takenOf zs) (bk := []) (i := 0)
          have l1' := I.B1.len.1
          have l2' := I.B2.len.1
          simp only [List.length_nil] at k1 k2
          rcases i with _ | _ | i
          · cases hi
            exact ⟨r.b1, r.x1, r.f1, r.its1, r.ep1, r.os1, _, rfl, (N10 (r.b1, bookObj r.x1 r.f1 (esOf w r.its1) r.ep1) (by rw [hT7]; simp)).1, I.B1, book_keys I.B1, I.m1, fun q hq => by (rw [hT7]; simp [hq]), by omega, .inl ⟨rfl, rfl⟩⟩
          · cases hi
            exact ⟨r.b2, r.x2, r.f2, r.its2, r.ep2, r.os2, _, rfl, (N10 (r.b2, bookObj r.x2 r.f2 (esOf w r.its2) r.ep2) (by rw [hT7]; simp)).1, I.B2, book_keys I.B2, I.m2, fun q hq => by (rw [hT7]; simp [hq]), by omega, .inr ⟨rfl, rfl⟩⟩
          · simp at hi
        refine' comp_evalC (cl := []) (fun _ => true) (fun v y os => ∃ bk, ((v = .ref r.b1 ∧ bk = bookFrom nameOf [] 0 (takenOf zs)) ∨ (v = .ref r.b2 ∧ bk = bookFrom valOf [] 0 (takenOf zs))) ∧ DatIn (os ++ T7) y (bookD bk)) ?g1 ?g2 ?g3 ?g4 ?g5 ?g6 ?g7
        case g1 => exact rfl
        case g2 => exact fun _ => rfl
        case g3 => exact fun _ => rfl
        case g4 => exact rfl
        case g5 => decide
        case g6 => exact fun _ => rfl
        walk_at "mygo"
        refine need_listC rfl (l := r.lb) (vs := [.ref r.b1, .ref r.b2]) ⟨_, News.get N10 (.tail _ (.tail _ (.tail _ (.head _)))), rfl, _, rfl⟩ (by simp) (fun b hb => nomatch hb) ?j1 ?j2 ?j3
        case j1 =>
          intro C i v h tk E' o hi F N hd
          exact wpAny_pure ⟨rfl, _, _, rfl, fun _ _ e => e⟩
        case j2 =>
          intro C i v h tk E' o hi hp F N hd
          dsimp only at F N ⊢
          obtain ⟨b, dx, lam, its, ep, ob, bk, rfl, hbo, BB, nk, hsm, hob, hil, hor⟩ := hbk i v hi
          refine' comp_eval (cl := [(Str.ofString "book", C + 1)]) (fun _ => true) (fun v y os => ∃ p a, v = keyOf p ∧ p ∈ its ∧ y = .ref a ∧ os = [(a, dueTup p.1 p.2.1 p.2.2)]) ?q1 ?q2 ?q3 ?q4 ?q5 ?q6
          case q1 => exact rfl
          case q2 => decide
          case q3 => exact rfl
          case q4 => decide
          case q5 => exact rfl
          walk_at "mygo"
          have eC := News.get N (.head _)
          refine need_keys rfl (X10.keeps F.keep) (F.keep _ _ hbo) hsm (by omega) (fun b hb => nomatch hb) ?s1 ?s2
          case s1 =>
            intro C2 i2 p h2 tk2 E2 m2 hi2 F2 hm2
            dsimp only at F2 ⊢
            have hpm : p ∈ its := List.mem_of_getElem? hi2
            have hm2' : m2 "word" = some (.str p.1 p.2.1) := hm2
            walk_at "mygo"
            refine bk_hit (X10.keeps fun a o e => F2.keep _ _ (F.keep _ _ e)) (F2.keep _ _ (F.keep _ _ hbo)) (find_self nk hpm) ?_ (by with_unfolding_all rfl)
            walk_at "mygo"
            refine wpAny_newTuple ?_
            refine ⟨⟨_, _, rfl, fun a o e => Heap.get?_push_of_some _ e⟩, _, ⟨p, _, rfl, hpm, rfl, rfl⟩, fun q hq => ?_⟩
            rw [List.mem_singleton.mp hq]
            exact ⟨Heap.get?_none_of_le (Nat.le_refl _), Heap.get?_push_size _ rfl⟩
          case s2 =>
            intro h2 tk2 D2 ys2 os2 n2 hD2 hD2' hG2 hos2 kp2 hE2
            dsimp only at hD2 kp2 hos2 ⊢
            refine ⟨⟨_, _, rfl, fun a o e => kp2 a o (by simp) e⟩, (D2, listOf ys2.toArray n2) :: os2, ⟨bk, hor, .list (n := n2) (.head _) (DatAll.mono (fun q hq => ?_) (book_dat BB hG2 nk))⟩, fun q hq => ?_⟩
            · rcases List.mem_append.mp hq with hq | hq
              · exact .tail _ (List.mem_append_left _ hq)
              · exact .tail _ (List.mem_append_right _ (hob q hq))
            · rcases List.mem_cons.mp hq with rfl | hq
              · exact ⟨hD2, hD2'⟩
              · exact ⟨(hos2 q hq).2.1, (hos2 q hq).1⟩
        case j3 =>
          intro h11 tk11 D11 ys11 os11 n11 hD11 hD11' hG11 hos11 kp11 hE11
          dsimp only at hD11 kp11 hos11 ⊢
          rw [List.filter_eq_self.mpr (fun _ _ => rfl)] at hG11
          have F11 := fr_kp0 F10 kp11
          have N11 : News g' L' h11 ((D11, listOf ys11.toArray n11) :: (ld, listOf #[.ref D0, .ref D1] 0) :: (D1, listOf y1.toArray n1) :: (D0, listOf y0.toArray n0) :: (os11 ++ T7)) := news_new F10 (news_app (l₁ := [(ld, listOf #[.ref D0, .ref D1] 0), (D1, listOf y1.toArray n1), (D0, listOf y0.toArray n0)]) (news_sub (news_kp0 N10 kp11) fun q hq => by
            simp only [List.mem_cons, List.not_mem_nil, or_false] at hq
            rcases hq with rfl | rfl | rfl
            · exact (.tail _ (.tail _ (.tail _ (.tail _ (.head _)))))
            · exact (.tail _ (.tail _ (.tail _ (.tail _ (.tail _ (.head _))))))
            · exact (.tail _ (.tail _ (.tail _ (.tail _ (.tail _ (.tail _ (.head _)))))))) (news_app (news_os F10 fun q hq => ⟨(hos11 q hq).1, (hos11 q hq).2.1⟩) (news_sub (news_kp0 N10 kp11) fun q hq => .tail _ (.tail _ (.tail _ (.tail _ (.tail _ (.tail _ (.tail _ (.tail _ (.tail _ hq))))))))))) hD11 hD11'
          have t100 := kp11 _ _ (by simp) (News.get N10 (.head _))
          have t236 := kp11 _ _ (by simp) (News.get N10 (.tail _ (.head _)))
          clear F10 N10
          walk_at "mygo"
          have b12 : r.b1 ≠ r.b2 := fun e => by
            have := I.nd
            unfold Nd at this
            simp [resLed, e] at this
          have up11 : ∀ p ∈ os11 ++ T7, p ∈ (D11, listOf ys11.toArray n11) :: (ld, listOf #[.ref D0, .ref D1] 0) :: (D1, listOf y1.toArray n1) :: (D0, listOf y0.toArray n0) :: (os11 ++ T7) := fun p hp => .tail _ (.tail _ (.tail _ (.tail _ hp)))
          have DA : DatAll ((D11, listOf ys11.toArray n11) :: (ld, listOf #[.ref D0, .ref D1] 0) :: (D1, listOf y1.toArray n1) :: (D0, listOf y0.toArray n0) :: (os11 ++ T7)) ys11 [bookD (bookFrom nameOf [] 0 (takenOf zs)), bookD (bookFrom valOf [] 0 (takenOf zs))] := by
            refine datAll_of (by rw [hG11.length]; rfl) fun i v d h1 h2 => ?_
            rcases i with _ | _ | i
            · obtain ⟨y, o, f1, ⟨bk, hor, hdat⟩, f3⟩ := gl_at hG11 (i := 0) (v := .ref r.b1) rfl
              rw [h1] at f1; cases f1
              cases h2
              rcases hor with ⟨_, rfl⟩ | ⟨e, _⟩
              · exact DatIn.mono (fun p hp => up11 p ((List.mem_append.mp hp).elim (fun q => List.mem_append_left _ (f3 p q)) (List.mem_append_right _))) hdat
              · injection e with e; exact absurd e b12
            · obtain ⟨y, o, f1, ⟨bk, hor, hdat⟩, f3⟩ := gl_at hG11 (i := 1) (v := .ref r.b2) rfl
              rw [h1] at f1; cases f1
              cases h2
              rcases hor with ⟨e, _⟩ | ⟨_, rfl⟩
              · injection e with e; exact absurd e.symm b12
              · exact DatIn.mono (fun p hp => up11 p ((List.mem_append.mp hp).elim (fun q => List.mem_append_left _ (f3 p q)) (List.mem_append_right _))) hdat
            · simp at h2
          have DB : DatAll ((D11, listOf ys11.toArray n11) :: (ld, listOf #[.ref D0, .ref D1] 0) :: (D1, listOf y1.toArray n1) :: (D0, listOf y0.toArray n0) :: (os11 ++ T7)) [.ref D0, .ref D1] [bookD (bookFrom nameOf [] 0 (takenOf zs)), bookD (bookFrom valOf [] 0 (takenOf zs))] := by
            rw [(due_is zs).1, (due_is zs).2]
            refine .cons (.list (n := n0) (.tail _ (.tail _ (.tail _ (.head _)))) (DatAll.mono (fun p hp => up11 p (List.mem_append_right _ ?_)) (due_all hd4))) (.cons (.list (n := n1) (.tail _ (.tail _ (.head _))) (DatAll.mono (fun p hp => up11 p (List.mem_append_right _ ?_)) (due_all hd5))) .nil)
            · rw [hT7]; exact List.mem_append_right _ (List.mem_append_right _ (List.mem_append_left _ hp))
            · rw [hT7]; exact List.mem_append_right _ (List.mem_append_left _ hp)
          have ok11 : ∀ d ∈ [bookD (bookFrom nameOf [] 0 (takenOf zs)), bookD (bookFrom valOf [] 0 (takenOf zs))], kqdOk 8 d = true := by
            intro d hd
            rcases List.mem_cons.mp hd with rfl | hd
            · exact book_ok8 name_ok _
            · rw [List.mem_singleton.mp hd]; exact book_ok8 val_ok _
          refine kqd_same N11 (.head _) rfl rfl DA (.tail _ (.head _)) rfl rfl DB ok11 (by show 4 + 3 + 64 < cLine; decide) ?_
          exact k h11 _ (fun a o e => F11.keep _ _ (S' _ _ e)) ⟨_, t100⟩ ⟨_, t236⟩
end
end
theorem off_Fin : True := by
  w_top off
  k_with_none
  trivial
-- Fin
section
open PySem PySem.W PyProof.Rows PySem.Calls
theorem law0' : Challenge.rw_mq0106_01.Holds := by
  refine hd ?_
  k_fill
  intro w s₀ s₁ mg mb G Y fa o pm cd doc dV kV ho hd hcd hD hmg hg args vals as hpre hlay hrd hwl hlo
  have KX := km_in_of Y
  km_tabs Y
  have X := (Ground.X G).1
  have V := (Ground.X G).2
  refine Ground.open G ?_
  intro T B D TE TW
  (try (refine guard_noD D (by decide +kernel) ?_; clear D))
  have efa : fa = 275 := by
    have e : mg (Str.ofString "law") = some (.ref 275) := mg_of KX T.g (by with_unfolding_all rfl)
    have e2 : mg (Str.ofString "law") = some (.ref fa) := hmg
    rw [e2] at e
    injection e with e
    injection e
  km_lay T hmg ho hd cd
  clear hmg
  wrow_args hpre hlay hrd hwl hlo
  refine kn_postC hT9 (fun _ _ => rfl) ?_
  rename Heap.IsList _ _ _ => hL
  rename IntsAre _ _ => hI
  rename ¬ ((_ : Int) < _) => hlen
  subst efa
  have cc := ghost_code hT9
  refine law_spec (hb := ghostOf s₁.heap [(104, 100), (240, 236)]) (ghost_K hT9 KX (by kernel_rfl)) (ghost_top hT9 T) (fun a o e => of_hideAll _ e) cc.1 cc.2.1 ?l1 ?l2 ?l3 ?l4 (ghost_list hT9 hL) hI (by omega) (hT8 100 (by decide)) (hideAll_none _ (by decide)) (hT8 236 (by decide)) (hideAll_none _ (by decide)) ?kk
  case l1 => decide +kernel
  case l2 => decide +kernel
  case l3 => decide +kernel
  case l4 => decide +kernel
  case kk =>
    intro h' tk kp t1 t2
    refine' ⟨⟨.inl ⟨_, .bool true, [], rfl, fun _ => rfl, .bool true, ?po, fun _ => ⟨List.nodup_nil, fun a h => nomatch h⟩⟩, kp, rfl, hg⟩, t1, t2, trivial⟩
    case po => refine' postW_of ?ps ?pv ?pe; (case ps => o_shape); (case pv => wtm_val); (case pe => w_fin)
end
end Mine
theorem PySem.Challenge.cw_mq0106_01_holds : PySem.Challenge.rw_mq0106_01.Holds :=
  Mine.law0'

import PyProof.Rows.All
import Wide.All
import OpenK.AllK
import Wide.FinOn
import PySem.Sre
import Lean
import PySem.Challenge.RW_rl0146_01
set_option Elab.async false
section
open PySem PySem.W PyProof.Rows PySem.Calls
set_option maxRecDepth 100000
set_option maxHeartbeats 400000
namespace Mine
/-! A logic beside wpAny that knows one thing more of the stack: the claim's caller stands on it. -/
def HasC (l : List (Code × Pos)) : Prop := (l.map (·.1)).any Code.isCaller = true
theorem HasC.cons {c : Code} {p : Pos} {l : List (Code × Pos)} (h : HasC l) : HasC ((c, p) :: l) := by
  unfold HasC at h ⊢
  rw [List.map_cons, List.any_cons, h, Bool.or_true]
theorem HasC.pos {c : Code} {p p' : Pos} {l : List (Code × Pos)} (h : HasC ((c, p) :: l)) : HasC ((c, p') :: l) := h

def wpC {α : Type} (M : Model) (A : Around) (t : Sem α) (Q : α → Shared → Prop) (E : Value → Shared → Prop) (s : Shared) : Prop :=
  ∀ Γ p, Γ.In A → HasC ((Γ.code, p) :: Γ.below) → Sem.wp M Γ t (fun a _ s' => Q a s') (fun e _ s' => E e s') p s
def codeC (M : Model) (A : Around) (c : Code) (R : Result → Shared → Prop) (s : Shared) : Prop :=
  ∀ Γ p, Γ.code = c → Γ.Below A → HasC Γ.below → wpCode M Γ R p s

section
variable {α β : Type} {M : Model} {A : Around} {E : Value → Shared → Prop} {s : Shared} {env : Env}
theorem wpC_of {t : Sem α} {Q : α → Shared → Prop} (h : wpAny M A t Q E s) : wpC M A t Q E s := fun Γ p hΓ _ => h Γ p hΓ
theorem codeC_of {c : Code} {R : Result → Shared → Prop} (h : codeAny M A c R s) : codeC M A c R s := fun Γ p hc hΓ _ => h Γ p hc hΓ
theorem wpC_mono {t : Sem α} {Q Q' : α → Shared → Prop} {E' : Value → Shared → Prop} (h : wpC M A t Q E s)
    (hQ : ∀ a s, Q a s → Q' a s) (hE : ∀ e s, E e s → E' e s) : wpC M A t Q' E' s :=
  fun Γ p hΓ c => Sem.wp_mono M Γ t (fun a _ s => hQ a s) (fun e _ s => hE e s) p s (h Γ p hΓ c)
theorem codeC_mono {c : Code} {R R' : Result → Shared → Prop} (h : codeC M A c R s) (hR : ∀ r s, R r s → R' r s) : codeC M A c R' s :=
  fun Γ p hc hΓ k => wpCode_mono hR (h Γ p hc hΓ k)
theorem wpC_pure {a : α} {Q : α → Shared → Prop} (h : Q a s) : wpC M A (pure a) Q E s := fun _ _ _ _ => h
theorem wpC_bind {m : Sem α} {f : α → Sem β} {Q : β → Shared → Prop} (h : wpC M A m (fun a s' => wpC M A (f a) Q E s') E s) :
    wpC M A (m >>= f) Q E s := fun Γ p hΓ c => by
  rw [Sem.wp_bind']
  exact Sem.wp_mono M Γ m (fun a p' s' h' => h' Γ p' hΓ c.pos) (fun _ _ _ h' => h') p s (h Γ p hΓ c)
theorem wpC_onRaise {m : Sem α} {k : Value → Sem Unit} {Q : α → Shared → Prop}
    (h : wpC M A m Q (fun e s' => wpC M A (k e) (fun _ s'' => E e s'') E s') s) : wpC M A (m.onRaise k) Q E s := fun Γ p hΓ c => by
  rw [Sem.wp_onRaise]
  exact Sem.wp_mono M Γ m (fun _ _ _ h' => h') (fun e p' s' h' => h' Γ p' hΓ c.pos) p s (h Γ p hΓ c)
theorem wpC_attempt {m : Sem α} {Q : Except Value α → Shared → Prop} (h : wpC M A m (fun a => Q (.ok a)) (fun e => Q (.error e)) s) :
    wpC M A m.attempt Q E s := fun Γ p hΓ c => by rw [Sem.wp_attempt]; exact h Γ p hΓ c
theorem wpC_holding {vs : List Value} {m : Sem α} {Q : α → Shared → Prop} (h : wpC M A m Q E s) : wpC M A (holding vs m) Q E s :=
  fun Γ p hΓ c => by rw [Sem.wp_holding]; exact h Γ p hΓ c
theorem wpC_keep {vs : List Value} {m : Sem α} {Q : α → Shared → Prop} (h : wpC M A m Q E s) : wpC M A (m.keep vs) Q E s :=
  fun Γ p hΓ c => by rw [Sem.wp_keep]; exact h Γ p hΓ c
theorem wpC_standAt {pos : Pos} {Q : Unit → Shared → Prop} (h : Q () s) : wpC M A (standAt pos) Q E s := fun _ _ _ _ => h
theorem wpC_of_eq {t : Sem α} {a : α} {Q : α → Shared → Prop} (e : t = pure a) (h : Q a s) : wpC M A t Q E s := by rw [e]; exact wpC_pure h
/-- a first step that needs no knowledge of the stack -/
theorem wpC_any {m : Sem α} {f : α → Sem β} {Q : β → Shared → Prop} (h : wpAny M A m (fun a s' => wpC M A (f a) Q E s') E s) :
    wpC M A (m >>= f) Q E s := wpC_bind (wpC_of h)
theorem wpC_stack {Q : List (Code × Pos) → Shared → Prop} (h : ∀ st, HasC st → Q st s) : wpC M A stack Q E s := fun Γ p _ c => h ((Γ.code, p) :: Γ.below) c

theorem wpC_run {c : Code} {h : Option Value} {Q : Flow → Shared → Prop}
    (hc : codeC M (A.mark h) c (fun r s' => match r with | .ok f => Q f s' | .error e => E e s') s) (hnb : h ≠ some byPass := by intro x; cases x) :
    wpC M A (run c h) Q E s :=
  fun Γ p hΓ k => by rw [Sem.wp_run]; exact hc _ p rfl (hΓ.enter c h p hnb) k
theorem wpC_runValue {c : Code} {Q : Value → Shared → Prop}
    (hc : codeC M A c (fun r s' => match r with | .ok (.ret v) => Q v s' | .ok _ => False | .error e => E e s') s) :
    wpC M A (runValue c) Q E s := fun Γ p hΓ k => by rw [Sem.wp_runValue]; exact hc _ p rfl (hΓ.enter c none p (by intro x; cases x)) k
theorem wpC_call {f : Value} {pos : List Value} {kw : List (Str × Value)} {Q : Value → Shared → Prop}
    (hc : codeC M A (.call f ⟨pos, kw⟩) (fun r s' => match r with | .ok (.ret v) => Q v s' | .ok _ => False | .error e => E e s') s) :
    wpC M A (call f pos kw) Q E s := wpC_runValue hc
theorem codeC_of_tree {c : Code} {R : Result → Shared → Prop}
    (h : wpC M (A.under c) (M.den c) (fun fin s' => match fin with | .done f => R (.ok f) s' | .again c' => c'.quiet = true ∧ codeC M A c' R s')
      (fun e s' => R (.error e) s') s) : codeC M A c R s := fun Γ p hc hΓ k => by
  rw [wpCode_iff_wp, hc]
  refine Sem.wp_mono M Γ _ (fun fin p' s' h' => ?_) (fun _ _ _ h' => h') p s (h Γ p (hc ▸ hΓ.in) k.cons)
  cases fin with
  | done f => exact h'
  | again c' => exact ⟨h'.1, h'.2 (Γ.goto c') p' rfl (hΓ.goto c') k⟩
theorem codeC_loop {c : Code} {R : Result → Shared → Prop} (hq : c.quiet = true) (I : Nat → Shared → Prop)
    (turn : ∀ n s, I n s → wpC M (A.under c) (M.den c)
      (fun fin s' => match fin with
        | .done f => R (.ok f) s'
        | .again c' => (c' = c ∧ ∃ m, m < n ∧ I m s') ∨ (c'.quiet = true ∧ codeC M A c' R s')) (fun e s' => R (.error e) s') s)
    (n : Nat) (h : I n s) : codeC M A c R s := by
  induction n using Nat.strongRecOn generalizing s with
  | ind n ih =>
    refine codeC_of_tree (wpC_mono (turn n s h) (fun fin s' hf => ?_) fun _ _ h' => h')
    cases fin with
    | done f => exact hf
    | again c' =>
      rcases hf with ⟨rfl, m, hm, hI⟩ | hf
      · exact ⟨hq, ih m hm hI⟩
      · exact hf

/-! statements -/
theorem wpC_execs_cons {st rest} {Q : Flow → Shared → Prop}
    (h : wpC M A (exec st env) (fun f s' => match f with | .next => wpC M A (execs rest env) Q E s' | f => Q f s') E s) :
    wpC M A (execs (st :: rest) env) Q E s := by
  rw [execs_cons]
  refine wpC_bind (wpC_mono h (fun f s' h' => ?_) fun _ _ e => e)
  cases f <;> first | exact h' | exact wpC_pure h'
theorem wpC_If {test body orelse pos} {Q : Flow → Shared → Prop}
    (h : wpAny M A (isTrue test env (eval test env))
      (fun b s₂ => if b then wpC M A (execs body env) Q E s₂ else wpC M A (execs orelse env) Q E s₂) E s) :
    wpC M A (exec (.If test body orelse pos) env) Q E s := by
  rw [exec_If]
  refine wpC_bind (wpC_standAt (wpC_any (wpAny_mono h (fun b s₂ h₂ => ?_) fun _ _ e => e)))
  cases b <;> exact h₂
theorem wpC_Assign_Name {x pos' value pos} {Q : Flow → Shared → Prop}
    (h : wpC M A (eval value env) (fun v s₁ => wpAny M A (storeName env x v) (fun _ => Q .next) E s₁) E s)
    (hs : swapsWith value (some (.Name x pos')) pos.line env = pure false := by rfl) :
    wpC M A (exec (.Assign [.Name x pos'] value pos) env) Q E s := fun Γ p hΓ c => by
  simp only [exec_Assign_Name env x pos' value pos hs, Sem.wp_bind', Sem.wp_cmd_standAt, Sem.wp_bindName, Sem.wp_pure']
  exact Sem.wp_mono M Γ _ (fun v _ s₁ h₁ => h₁ Γ _ hΓ) (fun _ _ _ h' => h') _ _ (h Γ _ hΓ c.pos)
theorem wpC_Compare1 {l op r pos} {Q : Value → Shared → Prop}
    (h : wpC M A (eval l env) (fun a s₁ => wpAny M A (eval r env) (fun b s₂ => wpAny M A (compareOp op a b) Q E s₂) E s₁) E s)
    (hm : behindInMarks op r = false := by with_unfolding_all rfl) :
    wpC M A (eval (.Compare l [op] [r] pos) env) Q E s := fun Γ p hΓ c => by
  simp only [eval_Compare1, markedBehindIn_of_false hm, Sem.wp_bind', Sem.wp_holding, Sem.wp_cmd_standAt, Sem.wp_operate]
  exact Sem.wp_mono M Γ _ (fun a p₁ s₁ h₁ => Sem.wp_mono M Γ _ (fun b _ s₂ h₂ => h₂ Γ _ hΓ) (fun _ _ _ h' => h') _ _ (h₁ Γ p₁ hΓ))
    (fun _ _ _ h' => h') _ _ (h Γ p hΓ c)
theorem wpC_runOwn {c : Code} {h : Option Value} {Q : Flow → Shared → Prop}
    (hc : codeC M (A.mark h) c (fun r s' => match r with | .ok f => Q f s' | .error e => cameBackBy M A env E e s') s) (hnb : h ≠ some byPass := by intro x; cases x) :
    wpC M A (runOwn c env h) Q E s := by
  unfold runOwn
  exact wpC_onRaise (wpC_run (codeC_mono hc (fun r s' x => by cases r with | ok f => exact x | error e => exact wpC_of x)) hnb)
theorem wpC_For {target iter body orelse pos} {Q : Flow → Shared → Prop}
    (h : wpAny M A (eval iter env) (fun x s₁ => wpAny M A (pyIter x) (fun it s₂ =>
      codeC M A (.forLoop target it body orelse env) (fun r s' => match r with | .ok f => Q f s' | .error e => cameBackBy M A env E e s') s₂) E s₁) E s)
    (hs : ∀ x, foldedSetIterable iter env x = pure x := by intro _; rfl) :
    wpC M A (exec (.For target iter body orelse pos) env) Q E s := by
  rw [exec_For]
  refine wpC_bind (wpC_standAt (wpC_any (wpAny_mono h (fun x s₁ h₁ => ?_) fun _ _ e => e)))
  refine wpC_bind (wpC_of_eq (hs x) (wpC_bind (wpC_standAt (wpC_any (wpAny_holding (wpAny_mono h₁ (fun it s₂ h₂ => ?_) fun _ _ e => e))))))
  exact wpC_runOwn h₂
theorem wpC_tryStmt {body orelse : Sem Flow} {h₀ : ExceptHandler} {hs : List ExceptHandler} {Q : Flow → Shared → Prop}
    (h : wpC M A body (fun f s₁ => match f with | .next => wpAny M A orelse Q E s₁ | f => Q f s₁)
      (fun e s₁ => wpAny M A (noteFrame e env) (fun _ s₂ => wpAny M A (setFlight e none) (fun _ s₃ => wpAny M A (handleBy e env (h₀ :: hs)) Q E s₃) E s₂) E s₁) s) :
    wpC M A (tryStmt false body (h₀ :: hs) orelse [] env) Q E s := by
  unfold tryStmt
  simp only [List.isEmpty_nil, if_true, List.isEmpty_cons, Bool.false_and, Bool.false_eq_true, if_false]
  refine wpC_bind (wpC_attempt (wpC_mono h (fun f s₁ h₁ => ?_) fun e s₁ h₁ => ?_))
  · cases f <;> first | exact wpC_of h₁ | exact wpC_pure h₁
  · exact wpC_of (wpAny_bind (wpAny_mono h₁ (fun _ _ h₂ => wpAny_bind h₂) fun _ _ x => x))
end

section
variable {prog : Program} {w : World} {A : Around} {E : Value → Shared → Prop} {s : Shared} {env : Env} {R : Result → Shared → Prop}
theorem wpC_Try_except {body orelse : List Stmt} {h₀ : ExceptHandler} {hs : List ExceptHandler} {pos : Pos} {Q : Flow → Shared → Prop}
    (h : wpC (model prog w) A (execs body env) (fun f s₁ => match f with | .next => wpAny (model prog w) A (execs orelse env) Q E s₁ | f => Q f s₁)
      (fun e s₁ => wpAny (model prog w) A (noteFrame e env) (fun _ s₂ => wpAny (model prog w) A (setFlight e none) (fun _ s₃ => wpAny (model prog w) A (handleBy e env (h₀ :: hs)) Q E s₃) E s₂) E s₁) s) :
    wpC (model prog w) A (exec (.Try body (h₀ :: hs) orelse [] pos) env) Q E s := by
  rw [arm_exec_Try]
  exact wpC_bind (wpC_standAt (wpC_tryStmt h))
theorem codeC_func {body env}
    (h : wpC (model prog w) (A.deeper env) (execs body env) (fun f s' => R (.ok (.ret (match f with | .ret v => v | _ => .none))) s')
      (fun _ _ => False) s) :
    codeC (model prog w) A (.func body env) R s := by
  refine codeC_of_tree ?_
  show wpC _ (A.deeper env) (do point; match ← (execs body env).onRaise (leaving env) with | .ret v => ret v | _ => ret .none) _ _ s
  refine wpC_any (wpAny_point (wpC_bind (wpC_onRaise (wpC_mono h (fun f s' h' => ?_) fun _ _ h' => h'.elim))))
  cases f <;> exact wpC_pure h'
theorem codeC_forLoop {target it body env} (I : Nat → Shared → Prop)
    (turn : ∀ n s, I n s → wpAny (model prog w) A (pyNext it) (fun r s₁ => match r with
      | none => R (.ok .next) s₁
      | some v => wpAny (model prog w) A (assign target env v) (fun _ s₂ => wpC (model prog w) A (execs body env) (fun f s₃ => match f with
          | .next | .cont => ∃ m, m < n ∧ I m s₃
          | .brk => R (.ok .next) s₃
          | .ret v => R (.ok (.ret v)) s₃) (fun _ _ => False) s₂) (fun _ _ => False) s₁) (fun _ _ => False) s)
    (n : Nat) (h : I n s) (ht : ∀ v, letOwnedTupleGo target it v = pure () := by intro _; rfl) : codeC (model prog w) A (.forLoop target it body [] env) R s := by
  refine codeC_loop rfl I (fun n s hI => ?_) n h
  show wpC _ _ ((forTurn target it body [] env).onRaise (fun x => do noteFrame x env; theTreesLotGoes x)) _ _ s
  refine wpC_onRaise (wpC_mono (E := fun _ _ => False) ?_ (fun _ _ q => q) fun _ _ e => e.elim)
  simp only [forTurn]
  refine wpC_bind (wpC_standAt (wpC_bind (wpC_onRaise (wpC_of (wpAny_mono (turn n s hI) (fun r s₁ h₁ => ?_) fun _ _ h' => h'.elim)))))
  cases r with
  | none => exact wpC_pure (.inr ⟨rfl, codeC_of (codeAny_block (wpAny_execs_nil h₁))⟩)
  | some v =>
    refine wpC_bind (wpC_of_eq (ht v) ?_)
    refine wpC_any (wpAny_mono h₁ (fun _ s₂ h₂ => wpC_bind (wpC_mono h₂ (fun f s₃ h₃ => ?_) fun _ _ h' => h')) fun _ _ h' => h')
    cases f with
    | next => exact wpC_pure (.inl ⟨rfl, h₃⟩)
    | cont => exact wpC_pure (.inl ⟨rfl, h₃⟩)
    | brk => exact wpC_pure h₃
    | ret v => exact wpC_pure h₃
end
end Mine
end
section
open PySem PySem.W PyProof.Rows PySem.Calls
set_option maxRecDepth 100000
set_option maxHeartbeats 400000
namespace Mine
theorem caller_has (p : Pos) : HasC ((Code.builtin "claim.caller" {}, p) :: []) := rfl
/-- the thread of the claim's caller ends, by a walk that knows of the caller -/
theorem ends_C {prog : Program} {w : World} {t : Sem Fin} {s : Shared} {R : Result → Shared → Prop} (hreg : s.asleep)
    (h : wpC (model prog w) callerA t (fun fin s' => ∃ f, fin = .done f ∧ (R (.ok f) s' ∧ leftWithCleanup s'.gens = false)) (fun e s' => R (.error e) s' ∧ leftWithCleanup s'.gens = false) s) :
    ∃ n r s' s'', runN (denote table) prog w n s ⟨t, .builtin "claim.caller" {}, default, []⟩ = .halted (outcomeOf r) s' ∧
      schedN (denote table) prog w n (.single s ⟨t, .builtin "claim.caller" {}, default, []⟩) = .halted (outcomeOf r) s' ∧ s'.forget = s''.forget ∧ R r s'' := by
  have h0 : Sem.wp (model prog w) ⟨.builtin "claim.caller" {}, none, none, [], none⟩ t (Sem.finPost (model prog w) ⟨.builtin "claim.caller" {}, none, none, [], none⟩ fun r s' => R r s' ∧ leftWithCleanup s'.gens = false)
      (fun e _ s' => R (.error e) s' ∧ leftWithCleanup s'.gens = false) default s := by
    refine Sem.wp_mono _ _ t (fun fin p' s' h' => ?_) (fun _ _ _ h' => h') default s (h _ default caller_in (caller_has _))
    obtain ⟨f, rfl, hf⟩ := h'
    exact hf
  obtain ⟨n, r, s₁, s₂, hs, hn, hfo, hR⟩ := wp_halts_full (M := model prog w) (R := R) hreg h0
  exact ⟨n, r, s₂, s₁, hn, hs, hfo, hR⟩
theorem from_C {c : ClaimW} {tree : List Value → Sem Fin} {w : World} {s : Shared} {free : Addr → Prop} {gens : Prop} {kept : Heap → Prop} (hz : s.asleep) (hgens : s.gens = #[])
    (hspec : ∀ args, c.pre args = true → WData.layableAll args = true → ∀ ord : List DictEntry → List DictEntry, (∀ l, (ord l).Perm l) →
      ∃ vs s₁, layAllW c.records (classAt s.heap) w.params ord args s = some (vs, s₁) ∧
        wpC (model c.prog w) callerA (tree vs) (fun fin s' => ∃ f, fin = .done f ∧ (c.Ends s args vs s₁ (.ok f) s' ∧ s'.os = s.os ∧ AllBare s'.gens ∧ kept s'.heap))
          (fun e s' => c.Ends s args vs s₁ (.error e) s' ∧ s'.os = s.os ∧ AllBare s'.gens ∧ kept s'.heap) s₁) :
    c.CallFrom (fun vs => ⟨tree vs, .builtin "claim.caller" {}, default, []⟩) w free gens kept s := by
  intro args hpre hlay ord hord
  obtain ⟨vs, s₁, hlaid, hcode⟩ := hspec args hpre hlay ord hord
  have hal := layAllW_rest _ _ _ hlaid
  obtain ⟨k, r, s', s'', hrun, hsched, hfo, hcase, hos, hkp⟩ := ends_C (prog := c.prog) (w := w) (t := tree vs) (s := s₁)
    (R := fun r s' => c.Ends s args vs s₁ r s' ∧ s'.os = s.os ∧ kept s'.heap) (Shared.asleep_of_life hal.2.2.2 hz)
    (wpC_mono hcode (fun _ _ ⟨f, e, h1, h2, h3, h4⟩ => ⟨f, e, ⟨h1, h2, h4⟩, leftWithCleanup_false_of_bare h3⟩) fun _ _ ⟨h1, h2, h3, h4⟩ => ⟨⟨h1, h2, h4⟩, leftWithCleanup_false_of_bare h3⟩)
  obtain ⟨eh, _, _, eo, _⟩ := Shared.forget_eq hfo
  have hcase := hcase.congr eh
  have hkp : kept s'.heap := by rw [eh]; exact hkp
  rw [← eo] at hos
  have hlife : s'.heap.life = s.heap.life := (runN_life _ _ _ hrun).trans hal.2.2.2
  refine ⟨vs, s₁, hlaid, k, _, s', hsched, ?_, (fun _ i x hx => by rw [hgens] at hx; simp at hx), hkp, by rw [hlife], Shared.rest_eq hos⟩
  rcases hcase with ⟨v, rfl, d1, d2, d3, d4, d5⟩ | ⟨e, ob, cls, rfl, d1, d2, d3, d4, d5⟩
  · exact .inl ⟨v, rfl, d1, d2, d3, fun b o y _ => d4 b o y, d5⟩
  · exact .inr ⟨e, ob, cls, rfl, d1, d2, d3, d4, fun b o y _ => d5 b o y⟩
end Mine
end
section
open PySem PySem.W PyProof.Rows PySem.Calls
set_option maxRecDepth 100000
set_option maxHeartbeats 400000
namespace Mine
/-- the walk that is asked for: as WalkO, in the caller's logic -/
abbrev WalkC (q : Program) (loose : List Str) (XP : (Str → Option Value) → Heap → Prop) (YP : World → Heap → Prop) (r : RowW) (d : DefRec) (kwd : List (Str × Expr)) : Prop :=
  ∀ (w : World) (s₀ s₁ : Shared) (mg mb : Str → Option Value), Ground q loose r.records XP w s₀ mg mb s₁.heap → YP w s₁.heap → ∀ (a : Addr) (o : Obj) (pm cd doc dV kV : Value), s₁.heap.get? a = some o →
    o.data = .func { docDef d.name d.params d.body d.scope pm cd doc with defaults := dV, kwdefaults := kV } → s₁.heap.CodeRec cd d.name → Dflts mg s₁.heap d.params kwd dV kV → mg d.name = some (.ref a) → s₁.gens = #[] →
    ∀ (args : List WData) (vals : List Value) (as : List Addr), r.claim.pre args = true → WData.layableAll args = true → ReadsAllW r.records (classAt s₀.heap) s₁.heap vals args as → WellAll w.params s₁.heap vals args → (∀ a ∈ as, (a == sysModules) = false) →
      wpC (model r.prog w) callerA (PySem.call (.ref a) vals) (fun v s' => GoodWG r.claim (classAt s₀.heap) (ExcName.means s₀.heap) args s₁ (.ok (.ret v)) s')
        (fun e s' => GoodWG r.claim (classAt s₀.heap) (ExcName.means s₀.heap) args s₁ (.error e) s') s₁
theorem PySem.W.holds_open {r : OpenRow} {q : Program} {loose : List Str} {Xt : Shared → Bool} {XP : (Str → Option Value) → Heap → Prop} {α : Type} {Yf : Shared → α} {Ya : World → α} {YP : World → Heap → Prop} {d : DefRec} {kwd : List (Str × Expr)} {N : Nat}
    (left : LeftO r.prog q loose Xt Yf Ya N) (hY : ∀ w s, Yf s = Ya w → YP w s.heap) (hYk : ∀ w h h', YP w h → (∀ b o, h.get? b = some o → h'.get? b = some o) → YP w h')
    (hX : ∀ s, Xt s = true → XP (s.heap.nsMap mainGlobals) s.heap) (hXk : ∀ mg h h', XP mg h → (∀ b o, h.get? b = some o → h'.get? b = some o) → XP mg h')
    (hdef : defOf q r.name = some (d, kwd)) (hp : r.prog.theDef r.name = some (d.params, d.body, d.scope)) (hk : kwWritten? d.params.kwonlyargs d.params.kw_defaults = some kwd) (hRf : ∀ s, Xt s = true → RecFacts r.records s.heap) (hwr : (!r.writes || r.records.isEmpty) = true)
    (k1 : r.wellSaid = true) (ok : (chainsOk q && opensWell r.prog && (frees r.toRowW && r.within.isEmpty)) = true) (hb : r.prog.bare) (hw : r.toRowW.promised)
    (walk : WalkC q loose XP YP r.toRowW d kwd) : r.Holds := by
  refine ⟨k1, hw, ?_⟩
  obtain ⟨ok, k5⟩ := Bool.and_eq_true_iff.mp ok
  obtain ⟨hch, o1⟩ := Bool.and_eq_true_iff.mp ok
  obtain ⟨k5, k6⟩ := Bool.and_eq_true_iff.mp k5
  obtain ⟨hsame, hu, ha, hap, hm⟩ := frees_parts k5
  refine ⟨⟨hb, o1, by show r.makers.map _ = []; rw [hm]; rfl⟩, hw.witness, fun w => ⟨(left.behind hX hch w).1, fun s' hs' => ?_⟩⟩
  obtain ⟨s₀, hf, hg0, s, hT, hz, hgens, hg, G00, y⟩ := (left.behind (XP := fun mg h => XP mg h ∧ RecFacts r.records h) (fun s hs => ⟨hX s hs, hRf s hs⟩) hch w).2 s' hs'
  have G0 : Ground q loose [] XP w s (s.heap.nsMap mainGlobals) (s.heap.nsMap builtinsNs) s.heap := ⟨G00.T, G00.B, G00.D, G00.TE, G00.TD, G00.W, G00.X.1, G00.cls, G00.has, G00.apart, G00.once, G00.K⟩
  have RF := G00.X.2
  have hT' := hT
  refine ⟨s₀, hf, hg0, s, hT, fun n hn => ?_, RF.1, RF.2.1, ?_⟩
  · obtain rfl : n = r.name := by split at hn <;> simp_all
    exact pinned_of_view hg G0 hdef hp hk
  have hgens : s.gens = #[] := Array.eq_empty_of_size_eq_zero (beq_iff_eq.mp hgens)
  have G : Ground q loose r.records XP w s _ _ s.heap := RF.ground G0
  refine from_C (c := r.claim) (tree := fun vs => do match ← nsGet mainNs r.name with
      | some f => do ret (← PySem.call f vs)
      | none => unsupported "claim.caller:no-such-global") hz hgens fun args hpre hlay ord hord => ?_
  obtain ⟨⟨vs, s₁⟩, hlaid⟩ := Option.isSome_iff_exists.mp (layAllW_isSome (P := w.params) (ord := ord) G.has args r.args s (pre_splitW hpre).1)
  have keeps := layAllW_keeps _ _ _ hlaid
  have hal := layAllW_rest _ _ _ hlaid
  obtain ⟨as, hrd, hin, hold⟩ := reads_layAllW hord _ _ _ hlaid hlay s₁.heap (fun _ _ e => e)
  have L : Laid r.records w s s₁ args vs as := ⟨⟨ord, hord, hlaid⟩, hrd, hin, hold, keeps, hal.1.trans hgens, hal.2.2.1⟩
  have G₁ := G.keeps hXk keeps
  obtain ⟨a, o, pm, cd, doc, dV, kV, h1, h2, h3, h4, h5⟩ := G₁.fn hdef
  have h := walk w s s₁ _ _ G₁ (hYk _ _ _ (hY w s y) keeps) a o pm cd doc dV kV h2 h3 h4 h5 (defOf_name hdef ▸ h1) L.gens args vs as hpre hlay L.reads L.well (L.low G.low)
  have hi := ident_freeW hu ha hap
  have hwi : r.claim.within = [] := List.isEmpty_iff.mp k6
  refine ⟨vs, s₁, hlaid, wpC_any (wpAny_nsGet G₁.T.g (by
    rw [h1]
    exact wpC_bind (wpC_mono h (fun v s' g => wpC_pure ⟨_, rfl, have z := g.laid (c := r.claim) hsame hwi hi L; ⟨z.1, z.2.1, z.2.2, fun q => ⟨namesKept_of hT' hg r.keeps keeps g.2.1.old, noTable hwr q⟩⟩⟩)
      fun e s' g => have z := g.laid (c := r.claim) hsame hwi hi L; ⟨z.1, z.2.1, z.2.2, fun q => ⟨namesKept_of hT' hg r.keeps keeps g.2.1.old, noTable hwr q⟩⟩)))⟩
end Mine
end
section
open PySem PySem.W PyProof.Rows
namespace Mine
set_option maxRecDepth 100000
set_option maxHeartbeats 8000000
open_top hdC for PySem.Challenge.rw_rl0146_01
end Mine
end
section
open PySem PySem.W PyProof.Rows PySem.Calls
set_option maxRecDepth 100000
set_option maxHeartbeats 8000000
namespace Mine

noncomputable abbrev LL : List Str := looseW hdC.view_39 [Str.ofString "_twin_re_1", Str.ofString "_ver_stages", Str.ofString "_norm_version"]
noncomputable abbrev KF (w : World) : Frag := hdC.heap_39 w.params

/-- what stands at the top, at a heap -/
structure Gd (w : World) (mg mb : Str → Option Value) (h : Heap) : Prop where
  K : (KF w).In h
  T : TopRead hdC.view_39 LL mg mb h

theorem Gd.keeps {w : World} {mg mb : Str → Option Value} {h h' : Heap} (G : Gd w mg mb h) (hk : ∀ b o, h.get? b = some o → h'.get? b = some o) : Gd w mg mb h' := by
  refine ⟨G.K.keeps hk, ?_⟩
  obtain ⟨g, b, nl, bt, fr⟩ := G.T
  exact ⟨g.at fun o e => hk _ o e, b.at fun o e => hk _ o e, nl.keeps hk, bt, fr⟩

/-- the names of the top and of the builtins -/
structure Nm (mg mb : Str → Option Value) : Prop where
  re : mg "_twin_re_1" = some (.ref 36)
  vs : mg "_ver_stages" = some (.ref 37)
  cv : mg "_comparable_version" = some (.ref 44)
  nv : mg "_norm_version" = some (.ref 52)
  sa : mg "system_alias" = some (.ref 59)
  pf : mg "_platform" = some (.ref 66)
  lpart : mg "_law_part" = some (.ref 73)
  lplain : mg "_law_plain" = some (.ref 80)
  ltext : mg "_law_text" = some (.ref 85)
  lranks : mg "_law_ranks" = some (.ref 90)
  lseen : mg "_law_seen" = some (.ref 95)
  lalias : mg "_law_alias" = some (.ref 102)
  lnorm : mg "_law_norm" = some (.ref 107)
  gint : mg "int" = none
  gstr : mg "str" = none
  glist : mg "list" = none
  gmap : mg "map" = none
  gfilter : mg "filter" = none
  glen : mg "len" = none
  gabs : mg "abs" = none
  gve : mg "ValueError" = none
  bint : mb "int" = some (.type "int")
  bstr : mb "str" = some (.type "str")
  blist : mb "list" = some (.type "list")
  bmap : mb "map" = some (.type "map")
  bfilter : mb "filter" = some (.type "filter")
  blen : mb "len" = some (.builtin "len")
  babs : mb "abs" = some (.builtin "abs")
  bve : mb "ValueError" = some (.type "ValueError")

theorem Gd.nm {w : World} {mg mb : Str → Option Value} {h : Heap} (G : Gd w mg mb h) : Nm mg mb := by
  have k : ∀ {n : Str} {v : Value}, nsIn (KF w) mainGlobals n = some (some v) → mg n = some v := fun e => mg_of G.K G.T.g e
  have z : ∀ {n : Str}, nsIn (KF w) mainGlobals n = some none → mg n = none := fun e => mg_none_of G.K G.T.g e
  have b : ∀ {n : Str} {v : Value}, n ≠ "__name__" → bootBuiltins n = some v → mb n = some v := fun hn e => (G.T.builtins _ hn).trans e
  constructor
  all_goals first
    | exact k (by kernel_rfl!)
    | exact z (by kernel_rfl!)
    | exact b (by decide) (by decide +kernel)

theorem enter {prog : Program} {w : World} {A : Around} {s : Shared} {mg mb : Str → Option Value} {E : Value → Shared → Prop} {Q : Value → Shared → Prop}
    {name qual : Str} {params : Arguments} {body : List Stmt} {scope : Scope} {dV kV doc pm cdv ct oc : Value} {an od : Option Addr} {osl : Array (Option Value)} {f : Addr} {args : List Value} {binds : List (Str × Value)}
    (G : Gd w mg mb s.heap)
    (ho : (KF w).lookup f = some ⟨oc, od, .func (fnOf name qual params body scope dV kV doc pm an cdv ct), osl⟩) (hcd : codeIn (KF w) cdv qual = true) (hroom : A.depth < recursionLimit)
    (hbind : BindsTo s (fnOf name qual params body scope dV kV doc pm an cdv ct) ⟨args, []⟩ binds) (hloc : ∀ y ∈ binds, scope.names.lookup y.1 = some .local)
    (h : ∀ h₁, Fr s.heap s.heap.objs.size h₁ (fun y => binds.reverse.lookup y) →
      wpAny (model prog w) (A.deeper (envOf qual scope s.heap.objs.size f cdv)) (execs body (envOf qual scope s.heap.objs.size f cdv))
        (fun fl s' => Q (match fl with | .ret v => v | _ => .none) s')
        (fun e s' => wpAny (model prog w) (A.deeper (envOf qual scope s.heap.objs.size f cdv)) (leaving (envOf qual scope s.heap.objs.size f cdv) e) (fun _ s'' => E e s'') (fun e' s'' => E e' s'') s')
        { s with heap := h₁, toks := s.toks + binds.length })
    (hco : scope.isCoroutine = false := by rfl) (hgen : scope.isGenerator = false := by rfl) (hk : scope.kind = .function := by rfl)
    (hcell : ∀ x ∈ scope.names, x.2 ≠ .cell := by decide) : wpAny (model prog w) A (call (.ref f) args) Q E s := by
  refine wpAny_call ?_
  refine codeAny_call_def (fd := fnOf name qual params body scope dV kV doc pm an cdv ct) (body := body) (binds := binds) hroom (G.K _ _ ho) rfl G.T.nolimit (codeRec_of G.K hcd) rfl hbind hcell hloc (fun h₁ hns hk₁ => ?_) hco hgen hk
  exact wpAny_mono (h h₁ ⟨hns, fun b o e => hk₁ b o e, Nat.le_refl _⟩) (fun fl s' hl => hl) fun _ _ y => y

/-! ## lists and tuples stay; what a value reads as -/

/-- every list and tuple at an address of ok stays as it is -/
def Lo (ok : Addr → Prop) (h h' : Heap) : Prop := ∀ b o xs n, ok b → h.get? b = some o → o.data = .seq xs n → h'.get? b = some o
abbrev Every : Addr → Prop := fun _ => True
abbrev Lq (h h' : Heap) : Prop := Lo Every h h'
theorem Lo.refl {ok : Addr → Prop} (h : Heap) : Lo ok h h := fun _ _ _ _ _ e _ => e
theorem Lo.trans {ok : Addr → Prop} {a b c : Heap} (x : Lo ok a b) (y : Lo ok b c) : Lo ok a c := fun p o xs n k e d => y p o xs n k (x p o xs n k e d) d
theorem Lo.of_keep {ok : Addr → Prop} {h h' : Heap} (k : ∀ b o, h.get? b = some o → h'.get? b = some o) : Lo ok h h' := fun b o _ _ _ e _ => k b o e
theorem Lo.push {ok : Addr → Prop} (h : Heap) (o : Obj) : Lo ok h (h.push o) := .of_keep fun _ _ e => Heap.get?_push_of_some o e
theorem Lo.weak {ok ok' : Addr → Prop} {h h' : Heap} (x : Lo ok h h') (k : ∀ a, ok' a → ok a) : Lo ok' h h' := fun b o xs n q => x b o xs n (k b q)

mutual
inductive Rd (ok : Addr → Prop) (h : Heap) : Value → PyData → Prop
  | none : Rd ok h .none .none
  | bool (b) : Rd ok h (.bool b) (.bool b)
  | int (i t) : Rd ok h (.int i t) (.int i)
  | str (x t) : Rd ok h (.str x t) (.str x)
  | list {a o vs n xs} : ok a → h.get? a = some o → o.cls = .type "list" → o.data = .seq vs n → RdAll ok h vs.toList xs → Rd ok h (.ref a) (.list xs)
  | tuple {a o vs n xs} : ok a → h.get? a = some o → o.cls = .type "tuple" → o.data = .seq vs n → RdAll ok h vs.toList xs → Rd ok h (.ref a) (.tuple xs)
inductive RdAll (ok : Addr → Prop) (h : Heap) : List Value → List PyData → Prop
  | nil : RdAll ok h [] []
  | cons {v vs d ds} : Rd ok h v d → RdAll ok h vs ds → RdAll ok h (v :: vs) (d :: ds)
end

mutual
theorem Rd.lq {ok : Addr → Prop} {h h' : Heap} (l : Lo ok h h') : ∀ {v : Value} {d : PyData}, Rd ok h v d → Rd ok h' v d
  | _, _, .none => .none
  | _, _, .bool b => .bool b
  | _, _, .int i t => .int i t
  | _, _, .str x t => .str x t
  | _, _, .list k e c d r => .list k (l _ _ _ _ k e d) c d (RdAll.lq l r)
  | _, _, .tuple k e c d r => .tuple k (l _ _ _ _ k e d) c d (RdAll.lq l r)
theorem RdAll.lq {ok : Addr → Prop} {h h' : Heap} (l : Lo ok h h') : ∀ {vs : List Value} {ds : List PyData}, RdAll ok h vs ds → RdAll ok h' vs ds
  | _, _, .nil => .nil
  | _, _, .cons a b => .cons (Rd.lq l a) (RdAll.lq l b)
end
mutual
theorem Rd.weak {ok ok' : Addr → Prop} {h : Heap} (l : ∀ a, ok a → ok' a) : ∀ {v : Value} {d : PyData}, Rd ok h v d → Rd ok' h v d
  | _, _, .none => .none
  | _, _, .bool b => .bool b
  | _, _, .int i t => .int i t
  | _, _, .str x t => .str x t
  | _, _, .list k e c d r => .list (l _ k) e c d (RdAll.weak l r)
  | _, _, .tuple k e c d r => .tuple (l _ k) e c d (RdAll.weak l r)
theorem RdAll.weak {ok ok' : Addr → Prop} {h : Heap} (l : ∀ a, ok a → ok' a) : ∀ {vs : List Value} {ds : List PyData}, RdAll ok h vs ds → RdAll ok' h vs ds
  | _, _, .nil => .nil
  | _, _, .cons a b => .cons (Rd.weak l a) (RdAll.weak l b)
end
mutual
/-- what is read at a heap lies in it -/
theorem Rd.inside {ok : Addr → Prop} {h : Heap} : ∀ {v : Value} {d : PyData}, Rd ok h v d → Rd (fun a => ok a ∧ a < h.objs.size) h v d
  | _, _, .none => .none
  | _, _, .bool b => .bool b
  | _, _, .int i t => .int i t
  | _, _, .str x t => .str x t
  | _, _, .list k e c d r => .list ⟨k, Heap.lt_size e⟩ e c d (RdAll.inside r)
  | _, _, .tuple k e c d r => .tuple ⟨k, Heap.lt_size e⟩ e c d (RdAll.inside r)
theorem RdAll.inside {ok : Addr → Prop} {h : Heap} : ∀ {vs : List Value} {ds : List PyData}, RdAll ok h vs ds → RdAll (fun a => ok a ∧ a < h.objs.size) h vs ds
  | _, _, .nil => .nil
  | _, _, .cons a b => .cons (Rd.inside a) (RdAll.inside b)
end
mutual
theorem Rd.reads {ok : Addr → Prop} {h : Heap} : ∀ {v : Value} {d : PyData}, Rd ok h v d → ∃ as, Reads h v d as
  | _, _, .none => ⟨_, .none⟩
  | _, _, .bool b => ⟨_, .bool b⟩
  | _, _, .int i t => ⟨_, .int i t⟩
  | _, _, .str x t => ⟨_, .str x t⟩
  | _, _, .list _ e c d r => let ⟨_, q⟩ := RdAll.reads r; ⟨_, .list e c d q⟩
  | _, _, .tuple _ e c d r => let ⟨_, q⟩ := RdAll.reads r; ⟨_, .tuple e c d q⟩
theorem RdAll.reads {ok : Addr → Prop} {h : Heap} : ∀ {vs : List Value} {ds : List PyData}, RdAll ok h vs ds → ∃ as, ReadsAll h vs ds as
  | _, _, .nil => ⟨_, .nil⟩
  | _, _, .cons a b => let ⟨_, p⟩ := Rd.reads a; let ⟨_, q⟩ := RdAll.reads b; ⟨_, .cons p q⟩
end
section
variable {ok : Addr → Prop} {h : Heap}
theorem Rd.to {v : Value} {d d' : PyData} (r : Rd ok h v d) (e : d = d') : Rd ok h v d' := e ▸ r
theorem Rd.all {v : Value} {d : PyData} (r : Rd ok h v d) : Rd Every h v d := r.weak fun _ _ => trivial
theorem RdAll.all {v : List Value} {d : List PyData} (r : RdAll ok h v d) : RdAll Every h v d := r.weak fun _ _ => trivial
theorem RdAll.length : ∀ {vs : List Value} {ds : List PyData}, RdAll ok h vs ds → vs.length = ds.length
  | _, _, .nil => rfl
  | _, _, .cons _ b => congrArg (· + 1) (RdAll.length b)
theorem RdAll.append : ∀ {vs ws : List Value} {ds es : List PyData}, RdAll ok h vs ds → RdAll ok h ws es → RdAll ok h (vs ++ ws) (ds ++ es)
  | _, _, _, _, .nil, y => y
  | _, _, _, _, .cons a b, y => .cons a (RdAll.append b y)
theorem RdAll.get : ∀ {vs : List Value} {ds : List PyData} {i : Nat} {d : PyData}, RdAll ok h vs ds → ds[i]? = some d → ∃ v, vs[i]? = some v ∧ Rd ok h v d
  | _, _, 0, _, .cons a _, e => ⟨_, rfl, by cases e; exact a⟩
  | _, _, i + 1, _, .cons _ b, e => RdAll.get (i := i) b (by simpa using e)
  | _, _, _, _, .nil, e => by simp at e
theorem RdAll.take : ∀ {vs : List Value} {ds : List PyData} (k : Nat), RdAll ok h vs ds → RdAll ok h (vs.take k) (ds.take k)
  | _, _, 0, _ => .nil
  | _, _, _ + 1, .nil => .nil
  | _, _, k + 1, .cons a b => .cons a (RdAll.take k b)
theorem RdAll.drop : ∀ {vs : List Value} {ds : List PyData} (k : Nat), RdAll ok h vs ds → RdAll ok h (vs.drop k) (ds.drop k)
  | _, _, 0, x => x
  | _, _, _ + 1, .nil => .nil
  | _, _, k + 1, .cons _ b => RdAll.drop k b
theorem Rd.listOf {a : Addr} {xs : List PyData} (r : Rd ok h (.ref a) (.list xs)) : ∃ vs : List Value, h.IsList a vs.toArray ∧ RdAll ok h vs xs ∧ ok a := by
  cases r with
  | @list _ o vs n _ k e c d q => exact ⟨vs.toList, ⟨o, e, c, n, by simpa using d⟩, q, k⟩
theorem Rd.tupleOf {a : Addr} {xs : List PyData} (r : Rd ok h (.ref a) (.tuple xs)) : ∃ vs : List Value, IsTup h a vs.toArray ∧ RdAll ok h vs xs ∧ ok a := by
  cases r with
  | @tuple _ o vs n _ k e c d q => exact ⟨vs.toList, ⟨o, e, c, n, by simpa using d⟩, q, k⟩
theorem Rd.isRefL {v : Value} {xs : List PyData} (r : Rd ok h v (.list xs)) : ∃ a, v = .ref a := by cases r; exact ⟨_, rfl⟩
theorem Rd.isRefT {v : Value} {xs : List PyData} (r : Rd ok h v (.tuple xs)) : ∃ a, v = .ref a := by cases r; exact ⟨_, rfl⟩
theorem Rd.isStr {v : Value} {x : Str} (r : Rd ok h v (.str x)) : ∃ t, v = .str x t := by cases r; exact ⟨_, rfl⟩
theorem Rd.isInt {v : Value} {x : Int} (r : Rd ok h v (.int x)) : ∃ t, v = .int x t := by cases r; exact ⟨_, rfl⟩
theorem Rd.isNone {v : Value} (r : Rd ok h v .none) : v = .none := by cases r; rfl
end

/-! ## the step from state to state -/
structure St (s s' : Shared) : Prop where
  lq : Lq s.heap s'.heap
  gens : s'.gens = s.gens
  os : s'.os = s.os
theorem St.refl (s : Shared) : St s s := ⟨.refl _, rfl, rfl⟩
theorem St.trans {a b c : Shared} (x : St a b) (y : St b c) : St a c := ⟨x.lq.trans y.lq, y.gens.trans x.gens, y.os.trans x.os⟩
theorem St.toks (s : Shared) (t : Nat) : St s { s with toks := t } := ⟨.refl _, rfl, rfl⟩
theorem St.heap {s : Shared} {h : Heap} (t : Nat) (x : Lq s.heap h) : St s { s with heap := h, toks := t } := ⟨x, rfl, rfl⟩

theorem Fr.lq_set {h₀ h h' : Heap} {L : Addr} {m : Str → Option Value} (F : Fr h₀ L h m) (hs : Heap.SameBut L h h') : Lq h h' := fun b o xs n _ e d => by
  refine (hs.2 b fun q => ?_).trans e
  obtain ⟨oL, es, ep, hL, hLd, _⟩ := F.ns
  rw [q, hL] at e; cases e
  rw [hLd] at d; cases d

theorem Fr.size {h₀ h : Heap} {L : Addr} {m : Str → Option Value} (F : Fr h₀ L h m) : h₀.objs.size ≤ h.objs.size := Nat.le_trans F.above (Nat.le_of_lt F.ns.lt)


/-- a quiet call: all stays -/
structure Qt (s s' : Shared) : Prop where
  keep : ∀ b o, s.heap.get? b = some o → s'.heap.get? b = some o
  gens : s'.gens = s.gens
  os : s'.os = s.os
theorem Qt.st {s s' : Shared} (q : Qt s s') : St s s' := ⟨.of_keep q.keep, q.gens, q.os⟩
theorem Qt.refl (s : Shared) : Qt s s := ⟨fun _ _ e => e, rfl, rfl⟩
theorem Qt.trans {a b c : Shared} (x : Qt a b) (y : Qt b c) : Qt a c := ⟨fun p o e => y.keep p o (x.keep p o e), y.gens.trans x.gens, y.os.trans x.os⟩

section
variable {L : Addr} {h₀ : Heap} {m : Str → Option Value}
abbrev Fresh (s : Shared) : Addr → Prop := fun b => s.heap.objs.size ≤ b
/-- a step of an expression: all stays, the frame stands -/
structure Qf (h₀ : Heap) (L : Addr) (m : Str → Option Value) (s s' : Shared) : Prop extends Qt s s' where
  fr : Fr h₀ L s'.heap m
  size : s.heap.objs.size ≤ s'.heap.objs.size
theorem Qf.refl {s : Shared} (F : Fr h₀ L s.heap m) : Qf h₀ L m s s := ⟨.refl s, F, Nat.le_refl _⟩
theorem Qf.trans {a b c : Shared} (x : Qf h₀ L m a b) (y : Qf h₀ L m b c) : Qf h₀ L m a c := ⟨x.toQt.trans y.toQt, y.fr, Nat.le_trans x.size y.size⟩
theorem Qf.tok {s s' : Shared} (x : Qf h₀ L m s s') (t : Nat) : Qf h₀ L m s { s' with toks := t } := ⟨⟨x.keep, x.gens, x.os⟩, x.fr, x.size⟩
theorem Qf.fresh {s s' : Shared} (x : Qf h₀ L m s s') {ok : Addr → Prop} {h : Heap} {v : Value} {d : PyData} (r : Rd (fun b => ok b ∨ s'.heap.objs.size ≤ b) h v d) : Rd (fun b => ok b ∨ s.heap.objs.size ≤ b) h v d :=
  r.weak fun _ q => q.imp id (Nat.le_trans x.size)

end

section
variable {M : Model} {A : Around} {E : Value → Shared → Prop} {s : Shared} {name : Str} {scope : Scope} {L a : Addr} {cd : Value} {h₀ : Heap} {m : Str → Option Value}

theorem st' {x : Str} {v : Value} {Q : Unit → Shared → Prop} (F : Fr h₀ L s.heap m)
    (h : ∀ s', St s s' → Fr h₀ L s'.heap (fun y => if y = x then some v else m y) → Q () s')
    (hk : scope.kind = .function := by rfl) (hl : (envOf name scope L a cd).kindOf x = some .local := by rfl) :
    wpAny M A (storeName (envOf name scope L a cd) x v) Q E s :=
  wpAny_storeName_local hl F.ns (fun h' hn hs => h _ (St.heap _ (Fr.lq_set F hs)) (F.set hn hs))
    (by show (scope.kind == .class || (scope.kind == .module && L != mainGlobals)) = false; rw [hk]; rfl)

theorem newList' {ok : Addr → Prop} {vs : List Value} {ds : List PyData} {Q : Value → Shared → Prop} (F : Fr h₀ L s.heap m) (r : RdAll ok s.heap vs ds)
    (h : ∀ a s', Qf h₀ L m s s' → Rd (fun b => ok b ∨ s.heap.objs.size ≤ b) s'.heap (.ref a) (.list ds) → Q (.ref a) s') (hsz : vs.length ≤ sizeLine := by size_fits) :
    wpAny M A (newList vs) Q E s := by
  refine wpAny_newList (h _ _ ⟨⟨fun _ _ e => Heap.get?_push_of_some _ e, rfl, rfl⟩, F.push _, by rw [Heap.size_push]; exact Nat.le_succ _⟩ ?_) hsz
  exact .list (.inr (Nat.le_refl _)) (Heap.get?_push_size _ rfl) rfl rfl (by simpa using (r.lq (.push _ _)).weak fun _ => .inl)
theorem newTuple' {ok : Addr → Prop} {vs : List Value} {ds : List PyData} {Q : Value → Shared → Prop} (F : Fr h₀ L s.heap m) (r : RdAll ok s.heap vs ds)
    (h : ∀ a s', Qf h₀ L m s s' → Rd (fun b => ok b ∨ s.heap.objs.size ≤ b) s'.heap (.ref a) (.tuple ds) → Q (.ref a) s') (hsz : vs.length ≤ sizeLine := by size_fits) :
    wpAny M A (newTuple vs) Q E s := by
  refine wpAny_newTuple (h _ _ ⟨⟨fun _ _ e => Heap.get?_push_of_some _ e, rfl, rfl⟩, F.push _, by rw [Heap.size_push]; exact Nat.le_succ _⟩ ?_) hsz
  exact .tuple (.inr (Nat.le_refl _)) (Heap.get?_push_size _ rfl) rfl rfl (by simpa using (r.lq (.push _ _)).weak fun _ => .inl)
end

end Mine
end
section
open PySem PySem.W PyProof.Rows PySem.Calls
set_option maxRecDepth 100000
set_option maxHeartbeats 8000000
namespace Mine
theorem log2_small {n : Nat} (h : n < 10000) : n.log2 < 1920 := by
  by_cases h0 : n = 0
  · subst h0; decide
  · exact (Nat.log2_lt h0).mpr (Nat.lt_of_lt_of_le h (Nat.le_trans (by decide : 10000 ≤ 2 ^ 14) (Nat.pow_le_pow_right (by decide) (by decide))))

abbrev plainD (v : Int) : PyData := .tuple [.str (Str.ofString (toString v)), .int v, .list [.int 100, .int v.natAbs]]

theorem plain_spec {prog : Program} {w : World} {A : Around} {s : Shared} {mg mb : Str → Option Value} {E : Value → Shared → Prop} {v : Int} {t : Tok} {Q : Value → Shared → Prop}
   (G : Gd w mg mb s.heap) (hd : A.depth < 600) (hv : v.natAbs < 10000)
   (h : ∀ r s', Qt s s' → Rd (fun b => s.heap.objs.size ≤ b) s'.heap r (plainD v) → Q r s') :
   wpAny (model prog w) A (call (.ref 80) [.int v t]) Q E s := by
  have M := G.nm
  refine enter G rfl rfl (by unfold recursionLimit; omega) (BindsTo.of_eq rfl) (locs rfl) ?_
  intro h₁ F
  refine wpAny_execs_cons (wpAny_Return_some (Tuple_ (wpAny_items_cons (Call_ ?_))))
  refine ld_builtin_at F G.T.g M.gstr G.T.b M.bstr ?_
  refine callWith_type1 (args_cons (ld F rfl (args_nil ?_)))
  refine P.str_of_int (log2_small hv) ?_
  refine wpAny_items_cons (ld F rfl (wpAny_items_cons (List_ (wpAny_items_cons (wpAny_Constant_int (wpAny_items_cons (Call_ ?_)))))))
  refine ld_builtin_at F G.T.g M.gabs G.T.b M.babs ?_
  refine PyProof.Rows.callWith_builtin1 (args_cons (ld F rfl (args_nil ?_)))
  refine call_abs_int fun u tk => ?_
  refine wpAny_items_nil ?_
  refine newList' (ok := fun b => s.heap.objs.size ≤ b) F (.cons (.int _ _) (.cons (.int _ _) .nil)) fun a s' q' R' => ?_
  refine wpAny_items_nil ?_
  refine newTuple' q'.fr (.cons (.str _ _) (.cons (.int _ _) (.cons R' .nil))) fun a s'' q'' R'' => ?_
  refine h _ _ ⟨q''.fr.keep, (q'.trans q'').gens, (q'.trans q'').os⟩ ((R''.weak ?_).to ?_)
  · have h1 := Fr.size F
    have h2 := Fr.size q'.fr
    rintro b ((x | x) | x)
    · exact x
    · exact Nat.le_trans h1 x
    · exact Nat.le_trans h2 x
  · have : (if v < 0 then -v else v) = (v.natAbs : Int) := by split <;> omega
    rw [this]
end Mine
end
section
open PySem PySem.W PyProof.Rows PySem.Calls
set_option maxRecDepth 100000
set_option maxHeartbeats 8000000
namespace Mine

/-! ## expressions of constants alone -/
mutual
inductive CE : Expr → PyData → Prop
  | str {x k p} : CE (.Constant (.str x) k p) (.str x)
  | int {i k p} : CE (.Constant (.int i) k p) (.int i)
  | none {k p} : CE (.Constant .none k p) .none
  | neg {i k p p'} : CE (.UnaryOp .USub (.Constant (.int i) k p) p') (.int (-i))
  | list {es ds p} : CEs es ds → ds.length ≤ 100 → CE (.List es p) (.list ds)
  | tuple {es ds k p} : CEs es ds → ds.length ≤ 100 → CE (.Tuple es k p) (.tuple ds)
inductive CEs : List Expr → List PyData → Prop
  | nil : CEs [] []
  | cons {e es d ds} : CE e d → CEs es ds → CEs (e :: es) (d :: ds)
end
theorem CE.unstarred {e : Expr} {d : PyData} (c : CE e d) (rest : List Expr) (env : Env) : starEach (e :: rest) env = (false, eval e env) :: starEach rest env := by cases c <;> rfl
section
variable {prog : Program} {w : World} {A : Around} {env : Env} {L : Addr} {h₀ : Heap} {m : Str → Option Value}
theorem size_le {n : Nat} (h : n ≤ 100) : n ≤ sizeLine := Nat.le_trans h (by unfold sizeLine; decide)
mutual
theorem CE.eval {e : Expr} {d : PyData} (c : CE e d) : ∀ {s : Shared} {E : Value → Shared → Prop} {Q : Value → Shared → Prop} (_ : Fr h₀ L s.heap m)
    (_ : ∀ v s', Qf h₀ L m s s' → Rd (Fresh s) s'.heap v d → Q v s'), wpAny (model prog w) A (eval e env) Q E s := by
  intro s E Q F h
  cases c with
  | str => exact wpAny_Constant_str (h _ _ ((Qf.refl F).tok _) (.str _ _))
  | int => exact wpAny_Constant_int (h _ _ ((Qf.refl F).tok _) (.int _ _))
  | none => exact wpAny_Constant_none (h _ _ (Qf.refl F) .none)
  | neg => exact wpAny_UnaryOp (wpAny_Constant_int (PyProof.Rows.neg_int (h _ _ (((Qf.refl F).tok _).tok _) (.int _ _))))
  | list cs hn =>
    refine List_ (CEs.eval cs F fun vs s₁ q r => ?_)
    refine newList' q.fr r (fun a s' q' R' => ?_) (size_le (r.length ▸ hn))
    exact h _ _ (q.trans q') (R'.weak fun b x => x.elim id (Nat.le_trans q.size))
  | tuple cs hn =>
    refine Tuple_ (CEs.eval cs F fun vs s₁ q r => ?_)
    refine newTuple' q.fr r (fun a s' q' R' => ?_) (size_le (r.length ▸ hn))
    exact h _ _ (q.trans q') (R'.weak fun b x => x.elim id (Nat.le_trans q.size))
theorem CEs.eval {es : List Expr} {ds : List PyData} (c : CEs es ds) : ∀ {s : Shared} {E : Value → Shared → Prop} {Q : List Value → Shared → Prop} {pos : Pos} (_ : Fr h₀ L s.heap m)
    (_ : ∀ vs s', Qf h₀ L m s s' → RdAll (Fresh s) s'.heap vs ds → Q vs s'), wpAny (model prog w) A (spliced (backTo pos (starEach es env))) Q E s := by
  intro s E Q pos F h
  cases c with
  | nil => exact wpAny_items_nil (h _ _ (Qf.refl F) .nil)
  | cons c cs =>
    refine wpAny_items_cons (CE.eval c F fun v s₁ q r => CEs.eval cs q.fr fun vs s₂ q' r' => ?_) (c.unstarred _ _)
    exact h _ _ (q.trans q') (.cons (r.lq (.of_keep q'.keep)) (r'.weak fun _ => Nat.le_trans q.size))
end
end
end Mine
end
section
open PySem PySem.W PyProof.Rows PySem.Calls
set_option maxRecDepth 100000
set_option maxHeartbeats 400000
namespace Mine
/-! ## the machine that knows no texts -/
structure Part where
  text : Str
  num : Option Int
  ranks : List PyData
def Part.n (p : Part) : PyData := match p.num with | some k => .int k | none => .none
abbrev Part.d (p : Part) : PyData := .tuple [.str p.text, p.n, .list p.ranks]
def base : List Part := [
  ⟨"5", some 5, [.int 100, .int 5]⟩, ⟨"08", some 8, [.int 100, .int 8]⟩, ⟨"x", none, [.int 0, .str "x"]⟩, ⟨"+9", some 9, [.int 100, .int 9]⟩, ⟨"", none, []⟩,
  ⟨"60", some 60, [.int 100, .int 60]⟩, ⟨"-6", some (-6), [.int 100, .int 6]⟩, ⟨" 6 ", some 6, [.int 0, .str " ", .int 100, .int 6, .int 0, .str " "]⟩, ⟨"rc", none, [.int 50, .str "rc"]⟩]
theorem base_d : base.map Part.d = [
  .tuple [.str "5", .int 5, .list [.int 100, .int 5]], .tuple [.str "08", .int 8, .list [.int 100, .int 8]], .tuple [.str "x", .none, .list [.int 0, .str "x"]], .tuple [.str "+9", .int 9, .list [.int 100, .int 9]], .tuple [.str "", .none, .list []],
  .tuple [.str "60", .int 60, .list [.int 100, .int 60]], .tuple [.str "-6", .int (-6), .list [.int 100, .int 6]], .tuple [.str " 6 ", .int 6, .list [.int 0, .str " ", .int 100, .int 6, .int 0, .str " "]], .tuple [.str "rc", .none, .list [.int 50, .str "rc"]]] := rfl
def plainP (v : Int) : Part := ⟨Str.ofString (toString v), some v, [.int 100, .int v.natAbs]⟩
def partAt (n : Int) : Part := base.getD (n.fmod 9).toNat ⟨"", none, []⟩

theorem fmod9 (n : Int) : 0 ≤ n.fmod 9 ∧ n.fmod 9 < 9 := ⟨Int.fmod_nonneg_of_pos _ (by decide), Int.fmod_lt_of_pos _ (by decide)⟩

theorem seqIndex_pos {k : Int} {n : Nat} (h0 : 0 ≤ k) (h1 : k < n) : seqIndex? k n = some k.toNat := by
  unfold seqIndex?
  rw [if_neg (show ¬ k < 0 by omega)]
  simp only [h0, h1, decide_true, Bool.and_true, if_true]
theorem part_spec {prog : Program} {w : World} {A : Around} {s : Shared} {mg mb : Str → Option Value} {E : Value → Shared → Prop} {n : Int} {t : Tok} {Q : Value → Shared → Prop}
   (G : Gd w mg mb s.heap) (hd : A.depth < 600)
   (h : ∀ r s', Qt s s' → Rd (Fresh s) s'.heap r (partAt n).d → Q r s') :
   wpAny (model prog w) A (call (.ref 73) [.int n t]) Q E s := by
  refine enter G rfl rfl (by unfold recursionLimit; omega) (BindsTo.of_eq rfl) (locs rfl) ?_
  intro h₁ F
  refine wpAny_execs_cons ?_
  refine wpAny_Return_some ?_
  refine PyProof.Rows.Subscript_ ?_
  refine' CE.eval (d := .tuple (base.map Part.d)) ?c ?f ?k
  case f => exact F
  case c =>
    rw [base_d]
    refine .tuple ?_ (by decide)
    iterate 9
      refine .cons ?_ ?_
      · refine .tuple ?_ (by decide)
        refine .cons .str ?_
        refine .cons ?_ ?_
        · with_reducible first | exact .int | exact .none | exact .neg
        refine .cons ?_ .nil
        refine .list ?_ (by decide)
        repeat with_reducible first | exact .nil | refine .cons .int ?_ | refine .cons .str ?_
    exact .nil
  case k =>
    intro v s₁ q r
    obtain ⟨a, rfl⟩ := r.isRefT
    obtain ⟨vs, ht, ra, _⟩ := r.tupleOf
    refine wpAny_BinOp ?_
    refine ld q.fr rfl ?_
    refine wpAny_Constant_int ?_
    refine mod_int' (by decide) ?_
    obtain ⟨h0, h9⟩ := fmod9 n
    have hlen : vs.length = 9 := ra.length
    have hj : seqIndex? (n.fmod 9) vs.length = some (n.fmod 9).toNat := seqIndex_pos h0 (by rw [hlen]; exact h9)
    have hb : (base.map Part.d)[(n.fmod 9).toNat]? = some (partAt n).d := by
      have hlt : (n.fmod 9).toNat < base.length := by show (n.fmod 9).toNat < 9; omega
      simp [partAt, List.getD_eq_getElem?_getD, hlt]
    obtain ⟨x, hx, rx⟩ := ra.get hb
    refine item_tupleT ht (by omega) (by omega) hj hx ?_
    exact h _ _ ⟨q.fr.keep, q.gens, q.os⟩ (rx.weak fun b k => Nat.le_trans (Fr.size F) k)
end Mine
end
section
open PySem PySem.W PyProof.Rows PySem.Calls
set_option maxRecDepth 100000
set_option maxHeartbeats 400000
namespace Mine
section
variable {prog : Program} {w : World} {A : Around} {E : Value → Shared → Prop} {env : Env}

theorem compOpen {s₁ : Shared} {scope : Scope} {ax : Addr} {items : Array Value} {RR : Value → Value → Env → Shared → Prop}
    (hl : s₁.heap.IsList ax items) (hcell : ∀ y ∈ scope.names, y.2 ≠ .cell) (hkind : scope.kind = .function)
    (h : ∀ I D C h₁ tk m, (∀ b o, s₁.heap.get? b = some o → h₁.get? b = some o) → s₁.heap.objs.size ≤ I → s₁.heap.objs.size ≤ D → s₁.heap.objs.size ≤ C → D ≠ I → D ≠ C → I ≠ C →
      h₁.IsListIter I ax 0 → h₁.IsList D #[] → h₁.Ns C m → s₁.heap.objs.size ≤ h₁.objs.size → RR (.ref I) (.ref D) (compEnv scope C env) { s₁ with heap := h₁, toks := tk }) :
    wpAny (model prog w) A (pyIter (.ref ax)) (fun it s₂ => wpAny (model prog w) A (newList []) (fun acc s₃ =>
      wpAny (model prog w) A (newFunctionEnv scope env.globals [] [] env.qual none .none (some env)) (fun cenv s₄ => RR it acc { cenv with scope := scope } s₄) E s₃) E s₂) E s₁ := by
  refine wpAny_pyIter_list hl (wpAny_newObj_type (hd := by size_fits) (wpAny_newFunctionEnv hcell (by intro y hy; simp at hy) (fun h₁ hns₁ hsb₁ => ?_) hkind))
  dsimp only at hns₁ hsb₁ ⊢
  obtain ⟨ol, hol, hol'⟩ := id hl
  generalize hH1 : s₁.heap.push { cls := .type "list_iterator", data := .fields #[.ref ax, .int 0 0] } = H1 at hns₁ hsb₁ ⊢
  have hD : H1.objs.size = s₁.heap.objs.size + 1 := by rw [← hH1, Heap.size_push]
  generalize hH2 : H1.push { cls := .type "list", dict := none, data := .seq ([] : List Value).toArray } = H2 at hns₁ hsb₁ ⊢
  have hC : H2.objs.size = s₁.heap.objs.size + 2 := by rw [← hH2, Heap.size_push, hD]
  have hDC : H1.objs.size ≠ H2.objs.size := by rw [hD, hC]; exact Nat.ne_of_lt (Nat.lt_succ_self _)
  have hIC : s₁.heap.objs.size ≠ H2.objs.size := by rw [hC]; exact Nat.ne_of_lt (Nat.lt_succ_of_lt (Nat.lt_succ_self _))
  have hle : s₁.heap.objs.size ≤ H2.objs.size := Nat.le_trans (Nat.le_add_right _ 2) (Nat.le_of_eq hC.symm)
  have hsz : s₁.heap.objs.size ≤ h₁.objs.size := Nat.le_trans hle (Nat.le_of_lt hns₁.lt)
  refine h s₁.heap.objs.size H1.objs.size H2.objs.size h₁ _ _ (fun b o e => ?_) (Nat.le_refl _) (by rw [hD]; exact Nat.le_succ _) (by rw [hC]; exact Nat.le_add_right _ _) (by rw [hD]; exact Nat.succ_ne_self _) hDC hIC ?_ ?_ hns₁ hsz
  · exact hsb₁.extBut b o (Nat.ne_of_lt (Nat.lt_of_lt_of_le (Heap.lt_size e) hle)) (Heap.get?_push_of_some _ (hH2 ▸ Heap.get?_push_of_some _ (hH1 ▸ Heap.get?_push_of_some _ e)))
  · exact ⟨_, hsb₁.extBut _ _ hIC (Heap.get?_push_of_some _ (hH2 ▸ Heap.get?_push_of_some _ (hH1 ▸ Heap.get?_push_size _ rfl))), rfl, rfl⟩
  · exact ⟨_, hsb₁.extBut _ _ hDC (Heap.get?_push_of_some _ (hH2 ▸ Heap.get?_push_size _ rfl)), rfl, _, rfl⟩

/-- what a comprehension's element says -/
abbrev EltOk (prog : Program) (w : World) (A : Around) (env : Env) (scope : Scope) (x : Str) (elt : Expr) (s₁ : Shared) (ds : List PyData) (f : PyData → PyData) : Prop :=
  ∀ C v d s₂ m₂ (E' : Value → Shared → Prop) (Q' : Value → Shared → Prop), d ∈ ds → Rd Every s₁.heap v d → s₂.heap.Ns C m₂ → m₂ x = some v → Qt s₁ s₂ → s₁.heap.objs.size ≤ s₂.heap.objs.size →
    (∀ z s₃, Qt s₂ s₃ → s₂.heap.objs.size ≤ s₃.heap.objs.size → Rd (fun b => b < s₁.heap.objs.size ∨ s₂.heap.objs.size ≤ b) s₃.heap z (f d) → Q' z s₃) → wpAny (model prog w) A (eval elt (compEnv scope C env)) Q' E' s₂

theorem Lo.sameBut {h h' : Heap} {D : Addr} (x : Heap.SameBut D h h') : Lo (· ≠ D) h h' := fun b o _ _ k e _ => (x.2 b k).trans e

theorem comp1_loop {elt iter : Expr} {x : Str} {px : Pos} {scope : Scope} {pos : Pos} {I ax D C : Addr} {s₁ s : Shared} {R : Result → Shared → Prop} {items : List Value} {ds : List PyData} {m : Str → Option Value} (f : PyData → PyData)
    (hh : A.handled = none) (hx : scope.names.lookup x = some .local) (hkind : scope.kind = .function) (hI : s₁.heap.objs.size ≤ I) (hDs : s₁.heap.objs.size ≤ D) (hCs : s₁.heap.objs.size ≤ C) (hDI : D ≠ I) (hDC : D ≠ C) (hIC : I ≠ C)
    (hl : s₁.heap.IsList ax items.toArray) (hr : RdAll Every s₁.heap items ds) (hlen : ds.length ≤ 1000)
    (q : Qt s₁ s) (hs : s₁.heap.objs.size ≤ s.heap.objs.size) (hit : s.heap.IsListIter I ax 0) (hacc : s.heap.IsList D #[]) (hn : s.heap.Ns C m)
    (helt : EltOk prog w A env scope x elt s₁ ds f)
    (hR : ∀ s' m' ys, Qt s₁ s' → s₁.heap.objs.size ≤ s'.heap.objs.size → s'.heap.Ns C m' → s'.heap.IsList D ys → RdAll (· ≠ D) s'.heap ys.toList (ds.map f) → R (.ok .next) s') :
    codeAny (model prog w) A (.compLoop (.ListComp elt [⟨.Name x px, iter, [], 0⟩] scope pos) 0 (.ref I) (.ref D) (compEnv scope C env)) R s := by
  have hlt : ∀ {b o}, s₁.heap.get? b = some o → b < s₁.heap.objs.size := fun e => Heap.lt_size e
  obtain ⟨ol, hol, hol'⟩ := id hl
  have haxs := hlt hol
  refine codeAny_compLoop_list
    (fun k s' => ∃ m' ys i, Qt s₁ s' ∧ s₁.heap.objs.size ≤ s'.heap.objs.size ∧ s'.heap.IsListIter I ax i ∧ s'.heap.IsList D ys ∧ s'.heap.Ns C m' ∧
      RdAll (· ≠ D) s'.heap ys.toList ((ds.take i).map f) ∧ i ≤ items.length ∧ k = items.length + 1 - i) ?_ (items.length + 1)
    ⟨m, #[], 0, q, hs, hit, hacc, hn, .nil, Nat.zero_le _, rfl⟩
  rintro k s' ⟨m', ys, i, q', hs', hit', hacc', hn', hF, hi, rfl⟩
  have hl' : s'.heap.IsList ax items.toArray := ⟨ol, q'.keep _ _ hol, hol'⟩
  have hlds := hr.length
  have hnel : ∀ {a}, s₁.heap.objs.size ≤ a → ∀ b o, s₁.heap.get? b = some o → b ≠ a := fun ha b o e => Nat.ne_of_lt (Nat.lt_of_lt_of_le (hlt e) ha)
  cases hv : items[i]? with
  | none =>
    have hge : items.length ≤ i := by simpa using hv
    refine wpAny_pyNext_list_end hh hit' hl' (by simpa using hge) fun h₁ he₁ => ?_
    refine hR _ m' ys ⟨fun b o e => he₁ b o (hnel hI b o e) (q'.keep b o e), q'.gens, q'.os⟩ ?_ (hn'.extBut he₁ (Ne.symm hIC)) (hacc'.extBut he₁ hDI) ?_
    · have h1 := (hn'.extBut he₁ (Ne.symm hIC)).lt
      exact Nat.le_trans hCs (Nat.le_of_lt h1)
    · rw [List.take_of_length_le (by omega)] at hF
      refine hF.lq fun b o xs n kb e d => he₁ b o (fun hb => ?_) e
      obtain ⟨oi, hoi, _, hdi⟩ := hit'
      rw [hb, hoi] at e; cases e; rw [hdi] at d; cases d
  | some v =>
    have hlt' : i < items.length := (List.getElem?_eq_some_iff.mp hv).1
    have hdi : ∃ d, ds[i]? = some d := ⟨ds[i]'(by omega), List.getElem?_eq_getElem _⟩
    obtain ⟨d, hd⟩ := hdi
    obtain ⟨v', hv', rv⟩ := hr.get hd
    rw [hv] at hv'; cases hv'
    have hdm : d ∈ ds := List.mem_of_getElem? hd
    refine wpAny_pyNext_list_item hit' hl' (by simpa using hv) fun h₁ hit₁ hs₁ => ?_
    refine wpAny_assign_Name (wpAny_storeName_local (env := compEnv scope C env) hx (hn'.sameBut hs₁ (Ne.symm hIC)) (fun h₂ hn₂ hs₂ => ?_) (by simp [compEnv, hkind]))
    have q₂ : Qt s₁ { s' with heap := h₂, toks := s'.toks + 1 } := ⟨fun b o e => hs₂.extBut b o (hnel hCs b o e) (hs₁.extBut b o (hnel hI b o e) (q'.keep b o e)), q'.gens, q'.os⟩
    have hsz₂ : s₁.heap.objs.size ≤ h₂.objs.size := Nat.le_trans hs' (Nat.le_of_eq (hs₁.1.symm.trans hs₂.1.symm))
    refine helt C v d _ _ _ _ hdm rv hn₂ (if_pos rfl) q₂ hsz₂ fun z s₃ q₃ hsz₃ rz => ?_
    have lo₂ : Lo (· ≠ D) s'.heap h₂ := fun b o xs n kb e dd => by
      refine hs₂.extBut b o (fun hb => ?_) (hs₁.extBut b o (fun hb => ?_) e)
      · obtain ⟨oc, _, _, hoc, hdc, _⟩ := hn'
        rw [show b = C from hb, hoc] at e; cases e; rw [hdc] at dd; cases dd
      · obtain ⟨oi, hoi, _, hdi⟩ := hit'
        rw [hb, hoi] at e; cases e; rw [hdi] at dd; cases dd
    have hacc₂ : h₂.IsList D ys := (hacc'.extBut hs₁.extBut hDI).extBut hs₂.extBut hDC
    have hDlt : D < h₂.objs.size := let ⟨_, e, _⟩ := hacc₂; Heap.lt_size e
    have hF₃ := (hF.lq lo₂).lq (.of_keep q₃.keep)
    have hys : ys.size ≤ sizeLine := by
      have := hF.length
      have e4 : ys.toList.length = ys.size := by simp
      have : ((ds.take i).map f).length ≤ 1000 := by rw [List.length_map, List.length_take]; omega
      have : 1000 ≤ sizeLine := by unfold sizeLine; decide
      omega
    refine wpAny_list_append (hsz := hys) (hacc₂.at fun o e => q₃.keep _ o e) fun h₅ hl₅ hs₅ => ?_
    refine ⟨items.length + 1 - (i + 1), by omega, fun y => if y = x then some v else m' y, ys.push z, i + 1, ?_, ?_, ?_, hl₅, ?_, ?_, hlt', rfl⟩
    · exact ⟨fun b o e => hs₅.extBut b o (hnel hDs b o e) (q₃.keep b o (q₂.keep b o e)), q₃.gens.trans q₂.gens, q₃.os.trans q₂.os⟩
    · exact Nat.le_trans (Nat.le_trans hsz₂ hsz₃) (Nat.le_of_eq hs₅.1.symm)
    · exact ((hit₁.extBut hs₂.extBut hIC).at fun o e => q₃.keep _ o e).extBut hs₅.extBut (Ne.symm hDI)
    · exact (hn₂.keeps q₃.keep).sameBut hs₅ (Ne.symm hDC)
    · have ez : ((ds.take (i + 1)).map f) = ((ds.take i).map f) ++ [f d] := by
        rw [List.take_succ, hd]; simp
      rw [ez, Array.toList_push]
      refine RdAll.append (hF₃.lq (Lo.sameBut hs₅)) (.cons (Rd.lq (Lo.sameBut hs₅) (rz.weak fun b kb => ?_)) .nil)
      rcases kb with kb | kb
      · exact Nat.ne_of_lt (Nat.lt_of_lt_of_le kb hDs)
      · exact Nat.ne_of_gt (Nat.lt_of_lt_of_le hDlt kb)

/-- [elt for x in xs], all stays -/
theorem comp1 {elt iter : Expr} {x : Str} {px : Pos} {scope : Scope} {pos : Pos} {Q : Value → Shared → Prop} {s : Shared} (f : PyData → PyData)
    (hh : A.handled = none) (hfree : ∀ y ∈ scope.names, y.2 ≠ .free) (hcell : ∀ y ∈ scope.names, y.2 ≠ .cell) (hkind : scope.kind = .function)
    (hnames : ∀ y ∈ scope.names, y.2 = .local → scope.names.lookup y.1 = some .local) (hx : scope.names.lookup x = some .local)
    (h : wpAny (model prog w) A (eval iter env) (fun xv s₁ => ∃ ds, Rd Every s₁.heap xv (.list ds) ∧ ds.length ≤ 1000 ∧ EltOk prog w A env scope x elt s₁ ds f ∧
      (∀ D s', Qt s₁ s' → s₁.heap.objs.size ≤ s'.heap.objs.size → s₁.heap.objs.size ≤ D → Rd Every s'.heap (.ref D) (.list (ds.map f)) → Q (.ref D) s')) E s)
    (hs : ∀ x, foldedSetIterable iter env x = pure x := by intro _; rfl) :
    wpAny (model prog w) A (eval (.ListComp elt [⟨.Name x px, iter, [], 0⟩] scope pos) env) Q E s := by
  refine wpAny_ListComp hfree hkind hnames (wpAny_mono h (fun xv s₁ h₁ => ?_) fun _ _ e => e) hs
  obtain ⟨ds, rx, hlen, helt, hQ⟩ := h₁
  obtain ⟨ax, rfl⟩ := rx.isRefL
  obtain ⟨items, hl, hr, _⟩ := rx.listOf
  refine compOpen (RR := fun it acc cenv s₄ => codeAny (model prog w) A (.compStart (.ListComp elt [⟨.Name x px, iter, [], 0⟩] scope pos) 0 it acc cenv) (fun r s' => ∃ m, s'.heap.Ns cenv.locals m ∧ ∀ h', Heap.SameBut cenv.locals s'.heap h' →
          match r with | .ok _ => Q acc { s' with heap := h' } | .error x => wpAny (model prog w) A (passOn "comprehension.variables-let-go" x cenv) Q E { s' with heap := h' }) s₄)
    hl hcell hkind fun I D C h₁ tk m hk hI hD hC hDI hDC hIC hit hacc hn hsz => ?_
  have q : Qt s₁ { s₁ with heap := h₁, toks := tk } := ⟨hk, rfl, rfl⟩
  have loop := comp1_loop (prog := prog) (w := w) (A := A) (env := env) (elt := elt) (iter := iter) (px := px) (pos := pos) f hh hx hkind hI hD hC hDI hDC hIC hl hr hlen q hsz hit hacc hn helt
    (R := fun r s' => ∃ m, s'.heap.Ns C m ∧ ∀ h', Heap.SameBut C s'.heap h' →
          match r with | .ok _ => Q (.ref D) { s' with heap := h' } | .error x => wpAny (model prog w) A (passOn "comprehension.variables-let-go" x (compEnv scope C env)) Q E { s' with heap := h' }) (fun s' m' ys q' hs' hn' hl' hr' => ?_)
  · exact codeAny_compStart_list loop (wpAny_pyIter_listiter hit loop)
  · refine ⟨m', hn', fun h'' hs'' => hQ D _ ⟨fun b o e => hs''.extBut b o ?_ (q'.keep b o e), q'.gens, q'.os⟩ (Nat.le_trans hs' (Nat.le_of_eq hs''.1.symm)) hD ?_⟩
    · exact Nat.ne_of_lt (Nat.lt_of_lt_of_le (Heap.lt_size e) hC)
    · obtain ⟨oD, e1, e2, n, e3⟩ := hl'.extBut hs''.extBut hDC
      refine .list trivial e1 e2 e3 ((RdAll.lq (fun b o xs n kb e d => hs''.extBut b o (fun hb => ?_) e) hr').all)
      obtain ⟨oc, _, _, hoc, hdc, _⟩ := hn'
      rw [show b = C from hb, hoc] at e; cases e; rw [hdc] at d; cases d
end
end Mine
end
section
open PySem PySem.W PyProof.Rows PySem.Calls
set_option maxRecDepth 100000
set_option maxHeartbeats 400000
namespace Mine
section
variable {prog : Program} {w : World} {A : Around} {E : Value → Shared → Prop} {env : Env}

theorem Lo.ns {h h' : Heap} {C : Addr} {m : Str → Option Value} {ok : Addr → Prop} (hn : h.Ns C m) (hs : Heap.ExtBut C h h') : Lo ok h h' := fun b o xs n _ e d => hs b o (fun hb => by
  obtain ⟨oc, _, _, hoc, hdc, _⟩ := hn
  rw [hb, hoc] at e; cases e; rw [hdc] at d; cases d) e

/-- y = [elt for x in xs] -/
theorem comp1_assign {elt iter : Expr} {x y : Str} {px py : Pos} {scope fscope : Scope} {pos spos : Pos} {Q : Flow → Shared → Prop} {s : Shared} {name : Str} {L a : Addr} {cd : Value} {h₀ h' : Heap} {m : Str → Option Value} (_ : Fr h₀ L h' m) (f : PyData → PyData)
    (hsw : swapsWith (.ListComp elt [⟨.Name x px, iter, [], 0⟩] scope pos) (some (.Name y py)) spos.line (envOf name fscope L a cd) = pure true)
    (hh : A.handled = none) (hfree : ∀ y ∈ scope.names, y.2 ≠ .free) (hcell : ∀ y ∈ scope.names, y.2 ≠ .cell) (hkind : scope.kind = .function)
    (hnames : ∀ y ∈ scope.names, y.2 = .local → scope.names.lookup y.1 = some .local) (hx : scope.names.lookup x = some .local)
    (hy : (envOf name fscope L a cd).kindOf y = some .local) (hk : fscope.kind = .function)
    (h : wpAny (model prog w) A (eval iter (envOf name fscope L a cd)) (fun xv s₁ => ∃ ds, Rd Every s₁.heap xv (.list ds) ∧ ds.length ≤ 1000 ∧ EltOk prog w A (envOf name fscope L a cd) scope x elt s₁ ds f ∧ Fr h₀ L s₁.heap m ∧
      (∀ D s', St s₁ s' → Fr h₀ L s'.heap (fun z => if z = y then some (.ref D) else m z) → Rd Every s'.heap (.ref D) (.list (ds.map f)) → Q .next s')) E s)
    (hs : ∀ x, foldedSetIterable iter (envOf name fscope L a cd) x = pure x := by intro _; rfl) :
    wpAny (model prog w) A (exec (.Assign [.Name y py] (.ListComp elt [⟨.Name x px, iter, [], 0⟩] scope pos) spos) (envOf name fscope L a cd)) Q E s := by
  rw [exec_Assign_Name_used _ _ _ _ hsw]
  refine wpAny_bind (wpAny_standAt (wpAny_bind ?_))
  show wpAny _ A (do let _ ← comprehension (.ListComp elt [⟨.Name x px, iter, [], 0⟩] scope pos) scope (envOf name fscope L a cd) _ (newList []) false (eval iter (envOf name fscope L a cd)) (some (assign (.Name y py) (envOf name fscope L a cd)))) _ _ s
  refine wpAny_bind (wpAny_mono (wpAny_comprehension_use (Q := fun _ s' => Q .next s') rfl hs hfree hkind hnames (wpAny_mono h (fun xv s₁ h₁ => ?_) fun _ _ e => e))
    (fun _ s' hq => wpAny_pure (wpAny_pure hq)) fun _ _ e => e)
  obtain ⟨ds, rx, hlen, helt, F, hQ⟩ := h₁
  obtain ⟨ax, rfl⟩ := rx.isRefL
  obtain ⟨items, hl, hr, _⟩ := rx.listOf
  refine compOpen (RR := fun it acc cenv s₄ => codeAny (model prog w) A (.compStart (.ListComp elt [⟨.Name x px, iter, [], 0⟩] scope pos) 0 it acc cenv) (fun r s' => match r with
      | .ok _ => wpAny (model prog w) A (assign (.Name y py) (envOf name fscope L a cd) acc) (fun _ s'' => ∃ m, s''.heap.Ns cenv.locals m ∧ ∀ h', Heap.SameBut cenv.locals s''.heap h' → Q .next { s'' with heap := h' }) E s'
      | .error x => ∃ m, s'.heap.Ns cenv.locals m ∧ ∀ h', Heap.SameBut cenv.locals s'.heap h' → wpAny (model prog w) A (passOn "comprehension.variables-let-go" x cenv : Sem Value) (fun _ s' => Q .next s') E { s' with heap := h' }) s₄)
    hl hcell hkind fun I D C h₁ tk m₁ hk₁ hI hD hC hDI hDC hIC hit hacc hn hsz => ?_
  have q : Qt s₁ { s₁ with heap := h₁, toks := tk } := ⟨hk₁, rfl, rfl⟩
  have hLs : L < s₁.heap.objs.size := F.ns.lt
  have hLC : L ≠ C := Nat.ne_of_lt (Nat.lt_of_lt_of_le hLs hC)
  have hLD : L ≠ D := Nat.ne_of_lt (Nat.lt_of_lt_of_le hLs hD)
  have loop := comp1_loop (prog := prog) (w := w) (A := A) (env := envOf name fscope L a cd) (elt := elt) (iter := iter) (px := px) (pos := pos) f hh hx hkind hI hD hC hDI hDC hIC hl hr hlen q hsz hit hacc hn helt
    (R := fun r s' => match r with
      | .ok _ => wpAny (model prog w) A (assign (.Name y py) (envOf name fscope L a cd) (.ref D)) (fun _ s'' => ∃ m, s''.heap.Ns C m ∧ ∀ h', Heap.SameBut C s''.heap h' → Q .next { s'' with heap := h' }) E s'
      | .error x => ∃ m, s'.heap.Ns C m ∧ ∀ h', Heap.SameBut C s'.heap h' → wpAny (model prog w) A (passOn "comprehension.variables-let-go" x (compEnv scope C (envOf name fscope L a cd)) : Sem Value) (fun _ s' => Q .next s') E { s' with heap := h' })
    (fun s' m' ys q' hs' hn' hl' hr' => ?_)
  · exact codeAny_compStart_list loop (wpAny_pyIter_listiter hit loop)
  · have Fn : Fr h₀ L s'.heap m := ⟨F.ns.keeps q'.keep, fun b o e => q'.keep b o (F.keep b o e), F.above⟩
    refine wpAny_assign_Name (wpAny_storeName_local (env := envOf name fscope L a cd) hy Fn.ns (fun h₂ hn₂ hs₂ => ?_) (by show (fscope.kind == .class || (fscope.kind == .module && L != mainGlobals)) = false; rw [hk]; rfl))
    have hnC₂ : h₂.Ns C m' := hn'.sameBut hs₂ (Ne.symm hLC)
    refine ⟨m', hnC₂, fun h₃ hs₃ => hQ D _ ⟨?_, q'.gens, q'.os⟩ ?_ ?_⟩
    · exact ((Lo.of_keep q'.keep).trans (Lo.ns Fn.ns hs₂.extBut)).trans (Lo.ns hnC₂ hs₃.extBut)
    · have F₂ := Fn.set hn₂ hs₂
      refine ⟨F₂.ns.sameBut hs₃ hLC, fun b o e => hs₃.extBut b o (Nat.ne_of_lt ?_) (F₂.keep b o e), F₂.above⟩
      exact Nat.lt_of_lt_of_le (Heap.lt_size e) (Nat.le_trans F.above (Nat.le_of_lt (Nat.lt_of_lt_of_le hLs hC)))
    · obtain ⟨oD, e1, e2, n, e3⟩ := (hl'.extBut hs₂.extBut (Ne.symm hLD)).extBut hs₃.extBut hDC
      exact .list trivial e1 e2 e3 (((hr'.lq (Lo.ns Fn.ns hs₂.extBut)).lq (Lo.ns hnC₂ hs₃.extBut)).all)

/-! ## two clauses -/
theorem compTurn2_0 (elt i1 i2 : Expr) (t1 t2 : Expr) (scope : Scope) (pos : Pos) (it acc : Value) (env : Env) :
    compTurn (.ListComp elt [⟨t1, i1, [], 0⟩, ⟨t2, i2, [], 0⟩] scope pos) 0 it acc env = (standAt i1.pos >>= fun _ => pyNext it >>= fun r => match r with
      | none => pure (.done .next)
      | some v => letOwnedTupleGo t1 it v >>= fun _ => assign t1 env v >>= fun _ =>
        eval i2 env >>= fun x => standAt i2.pos >>= fun _ => foldedSetIterable i2 env x >>= fun x => holding [x] (pyIter x) >>= fun j =>
          runOwn (.compStart (.ListComp elt [⟨t1, i1, [], 0⟩, ⟨t2, i2, [], 0⟩] scope pos) 1 j acc env) env >>= fun _ =>
          again (.compLoop (.ListComp elt [⟨t1, i1, [], 0⟩, ⟨t2, i2, [], 0⟩] scope pos) 0 it acc env)) := by rfl
theorem compTurn2_1 (elt i1 i2 : Expr) (t1 t2 : Expr) (scope : Scope) (pos : Pos) (it acc : Value) (env : Env) :
    compTurn (.ListComp elt [⟨t1, i1, [], 0⟩, ⟨t2, i2, [], 0⟩] scope pos) 1 it acc env = (standAt i2.pos >>= fun _ => pyNext it >>= fun r => match r with
      | none => pure (.done .next)
      | some v => letOwnedTupleGo t2 it v >>= fun _ => assign t2 env v >>= fun _ =>
        (eval elt env >>= fun x => call (.builtin "list.append") [acc, x] >>= fun _ => pure ()) >>= fun _ =>
          again (.compLoop (.ListComp elt [⟨t1, i1, [], 0⟩, ⟨t2, i2, [], 0⟩] scope pos) 1 it acc env)) := by rfl

def flat : PyData → Prop
  | .int _ => True
  | .str _ => True
  | .none => True
  | _ => False
theorem Rd.flat {ok ok' : Addr → Prop} {h h' : Heap} {v : Value} {d : PyData} (f : flat d) (r : Rd ok h v d) : Rd ok' h' v d := by
  cases r with
  | none => exact .none
  | bool => exact f.elim
  | int => exact .int _ _
  | str => exact .str _ _
  | list => exact f.elim
  | tuple => exact f.elim
theorem RdAll.flat {ok ok' : Addr → Prop} {h h' : Heap} : ∀ {vs : List Value} {ds : List PyData}, (∀ d ∈ ds, flat d) → RdAll ok h vs ds → RdAll ok' h' vs ds
  | _, _, _, .nil => .nil
  | _, _, f, .cons a b => .cons (Rd.flat (f _ List.mem_cons_self) a) (RdAll.flat (fun d hd => f d (List.mem_cons_of_mem _ hd)) b)

section
variable {elt i1 i2 : Expr} {x y : Str} {px py pn : Pos} {scope : Scope} {pos : Pos} {R : Result → Shared → Prop}
theorem compStart2 {t1 t2 : Expr} {it acc : Value} {cenv : Env} {s : Shared}
    (h0 : codeAny (model prog w) A (.compLoop (.ListComp elt [⟨t1, i1, [], 0⟩, ⟨t2, i2, [], 0⟩] scope pos) 1 it acc cenv) R s)
    (h : wpAny (model prog w) A (pyIter it) (fun it' s' => codeAny (model prog w) A (.compLoop (.ListComp elt [⟨t1, i1, [], 0⟩, ⟨t2, i2, [], 0⟩] scope pos) 1 it' acc cenv) R s')
      (notedBy (model prog w) A cenv fun x s' => R (.error x) s') s) :
    codeAny (model prog w) A (.compStart (.ListComp elt [⟨t1, i1, [], 0⟩, ⟨t2, i2, [], 0⟩] scope pos) 1 it acc cenv) R s := by
  refine codeAny_of_tree ?_
  show wpAny _ _ ((compStart (.ListComp elt [⟨t1, i1, [], 0⟩, ⟨t2, i2, [], 0⟩] scope pos) 1 it acc cenv).onRaise (fun x => do noteFrame x cenv; standAt theWindowsPlace)) _ _ s
  refine wpAny_notedAt ?_
  unfold compStart
  show wpAny _ _ (ask >>= _) _ _ s
  refine wpAny_bind (wpAny_askSetting (wpAny_ite ?_))
  split
  · first
      | exact wpAny_bind (wpAny_pure (wpAny_pure (And.intro rfl h0)))
      | exact wpAny_pure (And.intro rfl h0)
  · first
      | exact wpAny_bind (wpAny_rule (wpAny_bind (wpAny_standAt (wpAny_bind (wpAny_mono h (fun it' s' h' => wpAny_pure (And.intro rfl h')) fun _ _ x => x)))))
      | (refine wpAny_bind (wpAny_rule ?_); show wpAny _ _ (standAt i2.pos >>= _) _ _ s; exact wpAny_bind (wpAny_standAt (wpAny_bind (wpAny_mono h (fun it' s' h' => wpAny_pure (And.intro rfl h')) fun _ _ x => x))))

theorem comp2_inner {I D C l' : Addr} {s : Shared} {items : List Value} {ys : Array Value} {m : Str → Option Value}
    (hh : A.handled = none) (hy : scope.names.lookup y = some .local) (hkind : scope.kind = .function) (hyd : (y == ("__debug__" : Str)) = false) (hDI : D ≠ I) (hDC : D ≠ C) (hIC : I ≠ C) (hlD : l' ≠ D) (hlI : l' ≠ I) (hlC : l' ≠ C)
    (hl : s.heap.IsList l' items.toArray) (hsz : ys.size + items.length ≤ sizeLine) (hit : s.heap.IsListIter I l' 0) (hacc : s.heap.IsList D ys) (hn : s.heap.Ns C m)
    (hR : ∀ s' m', (∀ b o, b ≠ I → b ≠ C → b ≠ D → s.heap.get? b = some o → s'.heap.get? b = some o) → s'.gens = s.gens → s'.os = s.os → s'.heap.Ns C m' → s'.heap.IsList D (ys ++ items.toArray) → R (.ok .next) s') :
    codeAny (model prog w) A (.compLoop (.ListComp (.Name y pn) [⟨.Name x px, i1, [], 0⟩, ⟨.Name y py, i2, [], 0⟩] scope pos) 1 (.ref I) (.ref D) (compEnv scope C env)) R s := by
  refine codeAny_loop rfl
    (fun k s' => ∃ m' i, (∀ b o, b ≠ I → b ≠ C → b ≠ D → s.heap.get? b = some o → s'.heap.get? b = some o) ∧ s'.gens = s.gens ∧ s'.os = s.os ∧ s'.heap.IsListIter I l' i ∧ s'.heap.IsList D (ys ++ (items.take i).toArray) ∧ s'.heap.Ns C m' ∧
      i ≤ items.length ∧ k = items.length + 1 - i) ?_ (items.length + 1)
    ⟨m, 0, fun _ _ _ _ _ e => e, rfl, rfl, hit, by simpa using hacc, hn, Nat.zero_le _, rfl⟩
  rintro k s' ⟨m', i, hk, hg, ho, hit', hacc', hn', hi, rfl⟩
  show wpAny _ _ ((compTurn (.ListComp (.Name y pn) [⟨.Name x px, i1, [], 0⟩, ⟨.Name y py, i2, [], 0⟩] scope pos) 1 (.ref I) (.ref D) (compEnv scope C env)).onRaise (fun x => do noteFrame x (compEnv scope C env); theTreesLotGoes x)) _ _ s'
  refine wpAny_noted ?_
  rw [compTurn2_1]
  refine wpAny_bind (wpAny_standAt (wpAny_bind ?_))
  have hl' : s'.heap.IsList l' items.toArray := hl.at fun o e => hk _ o hlI hlC hlD e
  cases hv : items[i]? with
  | none =>
    have hge : items.length ≤ i := by simpa using hv
    refine wpAny_pyNext_list_end hh hit' hl' (by simpa using hge) fun h₁ he₁ => wpAny_pure ?_
    refine hR _ m' (fun b o hbI hbC hbD e => he₁ b o hbI (hk b o hbI hbC hbD e)) hg ho (hn'.extBut he₁ (Ne.symm hIC)) ?_
    rw [List.take_of_length_le hge] at hacc'
    exact hacc'.extBut he₁ hDI
  | some v =>
    have hlt' : i < items.length := (List.getElem?_eq_some_iff.mp hv).1
    refine wpAny_pyNext_list_item hit' hl' (by simpa using hv) fun h₁ hit₁ hs₁ => ?_
    refine wpAny_bind (wpAny_of_eq (show letOwnedTupleGo (.Name y py) (.ref I) v = pure () from rfl) ?_)
    refine wpAny_bind (wpAny_assign_Name (wpAny_storeName_local (env := compEnv scope C env) hy (hn'.sameBut hs₁ (Ne.symm hIC)) (fun h₂ hn₂ hs₂ => ?_) (by simp [compEnv, hkind])))
    refine wpAny_bind (wpAny_bind (wpAny_Name (wpAny_loadName_local (env := compEnv scope C env) hkind hy hn₂ (if_pos rfl) ?_) hyd))
    have hacc₂ : h₂.IsList D (ys ++ (items.take i).toArray) := (hacc'.extBut hs₁.extBut hDI).extBut hs₂.extBut hDC
    refine wpAny_bind (wpAny_list_append (hsz := ?hsz) hacc₂ fun h₅ hl₅ hs₅ => ?body)
    case hsz => simp only [Array.size_append, List.size_toArray, List.length_take]; omega
    case body =>
      refine wpAny_pure (wpAny_pure ⟨rfl, items.length + 1 - (i + 1), by omega, fun z => if z = y then some v else m' z, i + 1, ?_, hg, ho, ?_, ?_, ?_, hlt', rfl⟩)
      · exact fun b o hbI hbC hbD e => hs₅.extBut b o hbD (hs₂.extBut b o hbC (hs₁.extBut b o hbI (hk b o hbI hbC hbD e)))
      · exact (hit₁.extBut hs₂.extBut hIC).extBut hs₅.extBut (Ne.symm hDI)
      · have : (items.take (i + 1)).toArray = (items.take i).toArray.push v := by
          rw [List.take_add_one, hv]; simp
        rw [this, Array.append_push]; exact hl₅
      · exact hn₂.sameBut hs₅ (Ne.symm hDC)
end
end
end Mine
end
section
open PySem PySem.W PyProof.Rows PySem.Calls
set_option maxRecDepth 100000
set_option maxHeartbeats 400000
namespace Mine
section
variable {prog : Program} {w : World} {A : Around} {E : Value → Shared → Prop} {env : Env}
variable {i1 i2 : Expr} {x y : Str} {px py pn : Pos} {scope : Scope} {pos : Pos}

theorem comp2_loop {I ax D C : Addr} {s₁ s : Shared} {R : Result → Shared → Prop} {items : List Value} {ds : List PyData} {m : Str → Option Value} (g : PyData → List PyData)
    (hh : A.handled = none) (hx : scope.names.lookup x = some .local) (hy : scope.names.lookup y = some .local) (hyd : (y == ("__debug__" : Str)) = false) (hkind : scope.kind = .function)
    (hI : s₁.heap.objs.size ≤ I) (hDs : s₁.heap.objs.size ≤ D) (hCs : s₁.heap.objs.size ≤ C) (hDI : D ≠ I) (hDC : D ≠ C) (hIC : I ≠ C)
    (hl : s₁.heap.IsList ax items.toArray) (hr : RdAll Every s₁.heap items ds) (hlen : ds.length ≤ 1000) (hg : ∀ d ∈ ds, (g d).length ≤ 100 ∧ ∀ r ∈ g d, flat r)
    (q : Qt s₁ s) (hs : s₁.heap.objs.size ≤ s.heap.objs.size) (hit : s.heap.IsListIter I ax 0) (hacc : s.heap.IsList D #[]) (hn : s.heap.Ns C m)
    (hfold : ∀ x, foldedSetIterable i2 (compEnv scope C env) x = pure x)
    (helt : EltOk prog w A env scope x i2 s₁ ds fun d => .list (g d))
    (hR : ∀ s' m' ys, Qt s₁ s' → s₁.heap.objs.size ≤ s'.heap.objs.size → s'.heap.Ns C m' → s'.heap.IsList D ys → RdAll (· ≠ D) s'.heap ys.toList (ds.flatMap g) → R (.ok .next) s') :
    codeAny (model prog w) A (.compLoop (.ListComp (.Name y pn) [⟨.Name x px, i1, [], 0⟩, ⟨.Name y py, i2, [], 0⟩] scope pos) 0 (.ref I) (.ref D) (compEnv scope C env)) R s := by
  have hlt : ∀ {b o}, s₁.heap.get? b = some o → b < s₁.heap.objs.size := fun e => Heap.lt_size e
  obtain ⟨ol, hol, hol'⟩ := id hl
  have haxs := hlt hol
  have hgt : ∀ i, ∀ d ∈ (ds.take i).flatMap g, flat d := fun i d hd => by
    obtain ⟨d', h1, h2⟩ := List.mem_flatMap.mp hd
    exact (hg d' (List.mem_of_mem_take h1)).2 d h2
  have hgl : ∀ i, ((ds.take i).flatMap g).length ≤ 100 * i := fun i => by
    induction i with
    | zero => simp
    | succ i ih =>
      rw [List.take_add_one, List.flatMap_append, List.length_append]
      cases hd : ds[i]? with
      | none => simp only [Option.toList_none, List.flatMap_nil, List.length_nil]; omega
      | some d =>
        have := (hg d (List.mem_of_getElem? hd)).1
        simp only [Option.toList_some, List.flatMap_cons, List.flatMap_nil, List.append_nil]; omega
  have key : ∀ Inv : Nat → Shared → Prop, (∀ k s', Inv k s' ↔ ∃ m' ys i, Qt s₁ s' ∧ s₁.heap.objs.size ≤ s'.heap.objs.size ∧ s'.heap.IsListIter I ax i ∧ s'.heap.IsList D ys ∧ s'.heap.Ns C m' ∧
      RdAll (· ≠ D) s'.heap ys.toList ((ds.take i).flatMap g) ∧ i ≤ items.length ∧ k = items.length + 1 - i) →
      codeAny (model prog w) A (.compLoop (.ListComp (.Name y pn) [⟨.Name x px, i1, [], 0⟩, ⟨.Name y py, i2, [], 0⟩] scope pos) 0 (.ref I) (.ref D) (compEnv scope C env)) R s := ?_
  · exact key _ fun _ _ => Iff.rfl
  intro Inv hInv
  refine codeAny_loop rfl Inv ?_ (items.length + 1) ((hInv _ _).mpr ⟨m, #[], 0, q, hs, hit, hacc, hn, .nil, Nat.zero_le _, rfl⟩)
  intro k s' hin
  obtain ⟨m', ys, i, q', hs', hit', hacc', hn', hF, hi, rfl⟩ := (hInv _ _).mp hin
  show wpAny _ A ((compTurn (.ListComp (.Name y pn) [⟨.Name x px, i1, [], 0⟩, ⟨.Name y py, i2, [], 0⟩] scope pos) 0 (.ref I) (.ref D) (compEnv scope C env)).onRaise (fun x => do noteFrame x (compEnv scope C env); theTreesLotGoes x)) _ _ s'
  refine wpAny_noted ?_
  rw [compTurn2_0]
  refine wpAny_bind (wpAny_standAt (wpAny_bind ?_))
  have hl' : s'.heap.IsList ax items.toArray := ⟨ol, q'.keep _ _ hol, hol'⟩
  have hlds := hr.length
  have hnel : ∀ {a}, s₁.heap.objs.size ≤ a → ∀ b o, s₁.heap.get? b = some o → b ≠ a := fun ha b o e => Nat.ne_of_lt (Nat.lt_of_lt_of_le (hlt e) ha)
  cases hv : items[i]? with
  | none =>
    have hge : items.length ≤ i := by simpa using hv
    refine wpAny_pyNext_list_end hh hit' hl' (by simpa using hge) fun h₁ he₁ => wpAny_pure ?_
    refine hR _ m' ys ⟨fun b o e => he₁ b o (hnel hI b o e) (q'.keep b o e), q'.gens, q'.os⟩ ?_ (hn'.extBut he₁ (Ne.symm hIC)) (hacc'.extBut he₁ hDI) ?_
    · have h1 := (hn'.extBut he₁ (Ne.symm hIC)).lt
      exact Nat.le_trans hCs (Nat.le_of_lt h1)
    · have hgd := hgt i
      rw [List.take_of_length_le (by omega)] at hF hgd
      exact hF.flat hgd
  | some v =>
    have hlt' : i < items.length := (List.getElem?_eq_some_iff.mp hv).1
    obtain ⟨d, hd⟩ : ∃ d, ds[i]? = some d := ⟨ds[i]'(by omega), List.getElem?_eq_getElem _⟩
    obtain ⟨v', hv', rv⟩ := hr.get hd
    rw [hv] at hv'; cases hv'
    have hdm : d ∈ ds := List.mem_of_getElem? hd
    refine wpAny_pyNext_list_item hit' hl' (by simpa using hv) fun h₁ hit₁ hs₁ => ?_
    refine wpAny_bind (wpAny_of_eq (show letOwnedTupleGo (.Name x px) (.ref I) v = pure () from rfl) ?_)
    refine wpAny_bind (wpAny_assign_Name (wpAny_storeName_local (env := compEnv scope C env) hx (hn'.sameBut hs₁ (Ne.symm hIC)) (fun h₂ hn₂ hs₂ => ?_) (by simp [compEnv, hkind])))
    have q₂ : Qt s₁ { s' with heap := h₂, toks := s'.toks + 1 } := ⟨fun b o e => hs₂.extBut b o (hnel hCs b o e) (hs₁.extBut b o (hnel hI b o e) (q'.keep b o e)), q'.gens, q'.os⟩
    have hsz₂ : s₁.heap.objs.size ≤ h₂.objs.size := Nat.le_trans hs' (Nat.le_of_eq (hs₁.1.symm.trans hs₂.1.symm))
    refine wpAny_bind (helt C v d _ _ _ _ hdm rv hn₂ (if_pos rfl) q₂ hsz₂ fun z s₃ q₃ hsz₃ rz => ?_)
    refine wpAny_bind (wpAny_standAt (wpAny_bind (wpAny_of_eq (hfold z) ?_)))
    obtain ⟨l', rfl⟩ := rz.isRefL
    obtain ⟨its, hl₃, hr₃, okl⟩ := rz.listOf
    have hacc₂ : h₂.IsList D ys := (hacc'.extBut hs₁.extBut hDI).extBut hs₂.extBut hDC
    have hit₂ : h₂.IsListIter I ax (i + 1) := hit₁.extBut hs₂.extBut hIC
    have hDlt : D < h₂.objs.size := let ⟨_, e, _⟩ := hacc₂; Heap.lt_size e
    have hIlt : I < h₂.objs.size := let ⟨_, e, _⟩ := hit₂; Heap.lt_size e
    have hClt : C < h₂.objs.size := hn₂.lt
    have hne : ∀ {c : Addr}, s₁.heap.objs.size ≤ c → c < h₂.objs.size → l' ≠ c := fun h1 h2 => by
      rcases okl with kb | kb
      · exact Nat.ne_of_lt (Nat.lt_of_lt_of_le kb h1)
      · exact Nat.ne_of_gt (Nat.lt_of_lt_of_le h2 kb)
    refine wpAny_bind (wpAny_holding (wpAny_pyIter_list hl₃ ?_))
    generalize hH : s₃.heap.push { cls := .type "list_iterator", data := .fields #[.ref l', .int 0 0] } = H
    have hlH : H.IsList l' its.toArray := hH ▸ hl₃.push _
    have hJ : H.IsListIter s₃.heap.objs.size l' 0 := ⟨_, hH ▸ Heap.get?_push_size _ rfl, rfl, rfl⟩
    have up : ∀ b o, s₃.heap.get? b = some o → H.get? b = some o := fun b o e => hH ▸ Heap.get?_push_of_some _ e
    have hDJ : D ≠ s₃.heap.objs.size := Nat.ne_of_lt (Nat.lt_of_lt_of_le hDlt hsz₃)
    have hCJ : C ≠ s₃.heap.objs.size := Nat.ne_of_lt (Nat.lt_of_lt_of_le hClt hsz₃)
    have hIJ : I ≠ s₃.heap.objs.size := Nat.ne_of_lt (Nat.lt_of_lt_of_le hIlt hsz₃)
    have hlJ : l' ≠ s₃.heap.objs.size := let ⟨_, e, _⟩ := hl₃; Nat.ne_of_lt (Heap.lt_size e)
    have hlits := hr₃.length
    have hys : ys.size + its.length ≤ sizeLine := by
      have h1 := hF.length
      have e4 : ys.toList.length = ys.size := by simp
      have h2 := hgl i
      have h3 := (hg d hdm).1
      have : 200000 ≤ sizeLine := by unfold sizeLine; decide
      omega
    refine wpAny_bind (wpAny_runOwn (env := compEnv scope C env) ?_)
    have inner := comp2_inner (prog := prog) (w := w) (A := A) (env := env) (i1 := i1) (i2 := i2) (x := x) (y := y) (px := px) (py := py) (pn := pn) (pos := pos) (s := { s₃ with heap := H }) hh hy hkind hyd hDJ hDC (Ne.symm hCJ) (hne hDs hDlt) hlJ (hne hCs hClt) hlH hys hJ
      (hacc₂.at fun o e => up _ o (q₃.keep _ o e)) (hn₂.keeps fun b o e => up _ o (q₃.keep _ o e))
      (R := fun r s' => match r with
        | .ok f => wpAny (model prog w) A (again (.compLoop (.ListComp (.Name y pn) [⟨.Name x px, i1, [], 0⟩, ⟨.Name y py, i2, [], 0⟩] scope pos) 0 (.ref I) (.ref D) (compEnv scope C env)))
          (fun fin s' => match fin with
            | .done f => R (.ok f) s'
            | .again c' => c' = (.compLoop (.ListComp (.Name y pn) [⟨.Name x px, i1, [], 0⟩, ⟨.Name y py, i2, [], 0⟩] scope pos) 0 (.ref I) (.ref D) (compEnv scope C env)) ∧ ∃ k', k' < items.length + 1 - i ∧ Inv k' s')
          (notedBy (model prog w) A (compEnv scope C env) fun e s' => R (.error e) s') s'
        | .error e => cameBackBy (model prog w) A (compEnv scope C env) (notedBy (model prog w) A (compEnv scope C env) fun e s' => R (.error e) s') e s')
      (fun s₄ m₄ hk₄ hg₄ ho₄ hn₄ hl₄ => ?_)
    · exact compStart2 inner (wpAny_pyIter_listiter hJ inner)
    · have up₄ : ∀ b o, b ≠ C → b ≠ D → s₃.heap.get? b = some o → s₄.heap.get? b = some o := fun b o h1 h2 e => hk₄ b o (Nat.ne_of_lt (Heap.lt_size e)) h1 h2 (up b o e)
      refine wpAny_pure ⟨rfl, items.length + 1 - (i + 1), by omega, (hInv _ _).mpr ⟨m₄, _, i + 1, ?_, ?_, ?_, hl₄, hn₄, ?_, hlt', rfl⟩⟩
      · exact ⟨fun b o e => up₄ b o (hnel hCs b o e) (hnel hDs b o e) (q₃.keep b o (q₂.keep b o e)), (hg₄.trans q₃.gens).trans q₂.gens, (ho₄.trans q₃.os).trans q₂.os⟩
      · exact Nat.le_trans hCs (Nat.le_of_lt hn₄.lt)
      · exact hit₂.at fun o e => up₄ _ o hIC (Ne.symm hDI) (q₃.keep _ o e)
      · rw [List.take_add_one, List.flatMap_append, hd]
        simp only [Option.toList_some, List.flatMap_cons, List.flatMap_nil, List.append_nil, Array.toList_append]
        exact RdAll.append (hF.flat (hgt i)) (hr₃.flat (hg d hdm).2)

/-- [y for x in xs for y in g x] -/
theorem comp2 {Q : Value → Shared → Prop} {s : Shared} (g : PyData → List PyData)
    (hh : A.handled = none) (hfree : ∀ y ∈ scope.names, y.2 ≠ .free) (hcell : ∀ y ∈ scope.names, y.2 ≠ .cell) (hkind : scope.kind = .function)
    (hnames : ∀ y ∈ scope.names, y.2 = .local → scope.names.lookup y.1 = some .local) (hx : scope.names.lookup x = some .local) (hy : scope.names.lookup y = some .local) (hyd : (y == ("__debug__" : Str)) = false)
    (hfold : ∀ C x, foldedSetIterable i2 (compEnv scope C env) x = pure x)
    (h : wpAny (model prog w) A (eval i1 env) (fun xv s₁ => ∃ ds, Rd Every s₁.heap xv (.list ds) ∧ ds.length ≤ 1000 ∧ (∀ d ∈ ds, (g d).length ≤ 100 ∧ ∀ r ∈ g d, flat r) ∧ EltOk prog w A env scope x i2 s₁ ds (fun d => .list (g d)) ∧
      (∀ D s', Qt s₁ s' → s₁.heap.objs.size ≤ s'.heap.objs.size → s₁.heap.objs.size ≤ D → Rd Every s'.heap (.ref D) (.list (ds.flatMap g)) → Q (.ref D) s')) E s)
    (hs : ∀ x, foldedSetIterable i1 env x = pure x := by intro _; rfl) :
    wpAny (model prog w) A (eval (.ListComp (.Name y pn) [⟨.Name x px, i1, [], 0⟩, ⟨.Name y py, i2, [], 0⟩] scope pos) env) Q E s := by
  refine wpAny_ListComp hfree hkind hnames (wpAny_mono h (fun xv s₁ h₁ => ?_) fun _ _ e => e) hs
  obtain ⟨ds, rx, hlen, hg, helt, hQ⟩ := h₁
  obtain ⟨ax, rfl⟩ := rx.isRefL
  obtain ⟨items, hl, hr, _⟩ := rx.listOf
  refine compOpen (RR := fun it acc cenv s₄ => codeAny (model prog w) A (.compStart (.ListComp (.Name y pn) [⟨.Name x px, i1, [], 0⟩, ⟨.Name y py, i2, [], 0⟩] scope pos) 0 it acc cenv) (fun r s' => ∃ m, s'.heap.Ns cenv.locals m ∧ ∀ h', Heap.SameBut cenv.locals s'.heap h' →
          match r with | .ok _ => Q acc { s' with heap := h' } | .error x => wpAny (model prog w) A (passOn "comprehension.variables-let-go" x cenv) Q E { s' with heap := h' }) s₄)
    hl hcell hkind fun I D C h₁ tk m hk hI hD hC hDI hDC hIC hit hacc hn hsz => ?_
  have q : Qt s₁ { s₁ with heap := h₁, toks := tk } := ⟨hk, rfl, rfl⟩
  have loop := comp2_loop (prog := prog) (w := w) (A := A) (env := env) (i1 := i1) (px := px) (py := py) (pn := pn) (pos := pos) g hh hx hy hyd hkind hI hD hC hDI hDC hIC hl hr hlen hg q hsz hit hacc hn (hfold C) helt
    (R := fun r s' => ∃ m, s'.heap.Ns C m ∧ ∀ h', Heap.SameBut C s'.heap h' →
          match r with | .ok _ => Q (.ref D) { s' with heap := h' } | .error x => wpAny (model prog w) A (passOn "comprehension.variables-let-go" x (compEnv scope C env)) Q E { s' with heap := h' }) (fun s' m' ys q' hs' hn' hl' hr' => ?_)
  · exact codeAny_compStart_list loop (wpAny_pyIter_listiter hit loop)
  · refine ⟨m', hn', fun h'' hs'' => hQ D _ ⟨fun b o e => hs''.extBut b o ?_ (q'.keep b o e), q'.gens, q'.os⟩ (Nat.le_trans hs' (Nat.le_of_eq hs''.1.symm)) hD ?_⟩
    · exact Nat.ne_of_lt (Nat.lt_of_lt_of_le (Heap.lt_size e) hC)
    · obtain ⟨oD, e1, e2, n, e3⟩ := hl'.extBut hs''.extBut hDC
      exact .list trivial e1 e2 e3 ((hr'.lq (Lo.ns hn' hs''.extBut)).all)
end
end Mine
end
section
open PySem PySem.W PyProof.Rows PySem.Calls
set_option maxRecDepth 100000
set_option maxHeartbeats 400000
namespace Mine
theorem RdAll.strs {ok : Addr → Prop} {h : Heap} : ∀ {vs : List Value} {xs : List Str}, RdAll ok h vs (xs.map PyData.str) → ∃ l : List (Str × Tok), vs = strValues l ∧ l.map (·.1) = xs
  | _, [], .nil => ⟨[], rfl, rfl⟩
  | _, x :: xs, .cons a b => by
    obtain ⟨t, rfl⟩ := a.isStr
    obtain ⟨l, rfl, e⟩ := RdAll.strs b
    exact ⟨(x, t) :: l, rfl, by rw [List.map_cons, e]⟩

def d0 : PyData → PyData
  | .tuple (a :: _) => a
  | _ => .none
def d1 : PyData → PyData
  | .tuple (_ :: a :: _) => a
  | _ => .none
def d2 : PyData → List PyData
  | .tuple (_ :: _ :: .list a :: _) => a
  | _ => []

section
variable {prog : Program} {w : World} {A : Around} {env : Env} {scope : Scope} {x : Str} {px : Pos} {k : Nat} {p p' : Pos} {s₁ : Shared}
/-- part[i] in a comprehension -/
theorem elt_item {i : Nat} {ps : List Part} {f : PyData → PyData} {C : Addr} {v : Value} {d : PyData} {s₂ : Shared} {m₂ : Str → Option Value} {E' : Value → Shared → Prop} {Q' : Value → Shared → Prop}
    (hkind : scope.kind = .function) (hx : scope.names.lookup x = some .local) (hxd : (x == ("__debug__" : Str)) = false) (hi : i < 3)
    (hf : ∀ q : Part, [PyData.str q.text, q.n, .list q.ranks][i]? = some (f q.d))
    (hdm : d ∈ ps.map Part.d) (rv : Rd Every s₁.heap v d) (hn : s₂.heap.Ns C m₂) (hm : m₂ x = some v) (q : Qt s₁ s₂)
    (hQ : ∀ z tk, Rd (fun b => b < s₁.heap.objs.size) s₁.heap z (f d) → Q' z { s₂ with toks := tk }) :
    wpAny (model prog w) A (eval (.Subscript (.Name x px) (.Constant (.int i) k p) p') (compEnv scope C env)) Q' E' s₂ := by
  obtain ⟨pt, _, rfl⟩ := List.mem_map.mp hdm
  refine PyProof.Rows.Subscript_ ?_
  refine wpAny_Name (wpAny_loadName_local (env := compEnv scope C env) hkind hx hn hm ?_) hxd
  refine wpAny_Constant_int ?_
  obtain ⟨a, rfl⟩ := rv.isRefT
  obtain ⟨vs, ht, ra, _⟩ := (rv.inside).tupleOf
  obtain ⟨z, hz, rz⟩ := ra.get (hf pt)
  have hlen : vs.length = 3 := ra.length
  refine item_tupleT (s := { s₂ with toks := s₂.toks + 1 }) (l := vs) (j := i) (ht.keeps q.keep) (by omega) (by omega) (by have := seqIndex_pos (k := (i : Int)) (n := vs.length) (by omega) (by rw [hlen]; omega); simpa using this) hz ?_
  exact hQ z _ (rz.weak fun b kb => kb.2)
end

abbrev txt (ps : List Part) : Str := Txt.join "." (ps.map Part.text)
theorem text_spec {prog : Program} {w : World} {A : Around} {s : Shared} {mg mb : Str → Option Value} {E : Value → Shared → Prop} {ps : List Part} {v : Value} {Q : Value → Shared → Prop}
   (G : Gd w mg mb s.heap) (hd : A.depth < 600) (hh : A.handled = none) (hr : Rd Every s.heap v (.list (ps.map Part.d))) (hlen : ps.length ≤ 1000) (hw : ((ps.map Part.text).map (·.length)).sum + (ps.map Part.text).length ≤ 1048576)
   (h : ∀ t s', Qt s s' → Q (.str (txt ps) t) s') :
   wpAny (model prog w) A (call (.ref 85) [v]) Q E s := by
  refine enter G rfl rfl (by unfold recursionLimit; omega) (BindsTo.of_eq rfl) (locs rfl) ?_
  intro h₁ F
  refine wpAny_execs_cons ?_
  refine wpAny_Return_some ?_
  refine MethodCall_ ?_
  refine wpAny_Constant_str ?_
  with_reducible refine GM.join ?_
  refine callWith_method1 ?_
  refine args_cons ?_
  refine comp1 d0 hh (by decide) (by decide) rfl (by decide) rfl ?_
  refine ld F rfl ?_
  have hr₁ := hr.lq (.of_keep F.keep)
  refine ⟨_, hr₁, by simpa using hlen, ?_, ?_⟩
  · intro C v d s₂ m₂ E' Q' hdm rv hn hm q hsz hQ
    refine elt_item (i := 0) (f := d0) rfl rfl (by decide) (by decide) (fun _ => rfl) hdm rv hn hm q fun z tk rz => ?_
    exact hQ z _ ⟨fun _ _ e => e, rfl, rfl⟩ (Nat.le_refl _) ((rz.lq (.of_keep q.keep)).weak fun _ => .inl)
  · intro D s' q hsz _ rD
    refine args_nil ?_
    obtain ⟨vs, hl, ra, _⟩ := rD.listOf
    have e : (ps.map Part.d).map d0 = (ps.map Part.text).map PyData.str := by simp [d0]
    rw [e] at ra
    obtain ⟨l, rfl, el⟩ := ra.strs
    refine SC.join hl el (joinOk_of_weight hw (by decide)) fun t' k => ?_
    exact h _ _ ⟨fun b o e => q.keep b o (F.keep b o e), q.gens, q.os⟩
end Mine
end
section
open PySem PySem.W PyProof.Rows PySem.Calls
set_option maxRecDepth 100000
set_option maxHeartbeats 400000
namespace Mine
theorem flatMap_d2 (ps : List Part) : (ps.map Part.d).flatMap d2 = ps.flatMap Part.ranks := by rw [List.flatMap_map]; rfl

theorem ranks_spec {prog : Program} {w : World} {A : Around} {s : Shared} {mg mb : Str → Option Value} {E : Value → Shared → Prop} {ps : List Part} {v : Value} {Q : Value → Shared → Prop}
   (G : Gd w mg mb s.heap) (hd : A.depth < 600) (hh : A.handled = none) (hr : Rd Every s.heap v (.list (ps.map Part.d))) (hlen : ps.length ≤ 1000) (hrk : ∀ p ∈ ps, p.ranks.length ≤ 100 ∧ ∀ r ∈ p.ranks, flat r)
   (h : ∀ r s', Qt s s' → Rd Every s'.heap r (.list (ps.flatMap Part.ranks)) → Q r s') :
   wpAny (model prog w) A (call (.ref 90) [v]) Q E s := by
  refine enter G rfl rfl (by unfold recursionLimit; omega) (BindsTo.of_eq rfl) (locs rfl) ?_
  intro h₁ F
  refine wpAny_execs_cons ?_
  refine wpAny_Return_some ?_
  refine comp2 d2 hh (by decide) (by decide) rfl (by decide) rfl rfl (by decide) (fun _ _ => rfl) ?_
  refine ld F rfl ?_
  have hr₁ := hr.lq (.of_keep F.keep)
  refine ⟨_, hr₁, by simpa using hlen, ?_, ?_, ?_⟩
  · intro d hd
    obtain ⟨p, hp, rfl⟩ := List.mem_map.mp hd
    exact hrk p hp
  · intro C v d s₂ m₂ E' Q' hdm rv hn hm q hsz hQ
    refine elt_item (i := 2) (f := fun d => .list (d2 d)) rfl rfl (by decide) (by decide) (fun _ => rfl) hdm rv hn hm q fun z tk rz => ?_
    exact hQ z _ ⟨fun _ _ e => e, rfl, rfl⟩ (Nat.le_refl _) ((rz.lq (.of_keep q.keep)).weak fun _ => .inl)
  · intro D s' q hsz _ rD
    exact h _ _ ⟨fun b o e => q.keep b o (F.keep b o e), q.gens, q.os⟩ (rD.to (by rw [flatMap_d2]))
end Mine
end
section
open PySem PySem.W PyProof.Rows PySem.Calls
set_option maxRecDepth 100000
set_option maxHeartbeats 400000
namespace Mine
section
variable {prog : Program} {w : World} {A : Around} {E : Value → Shared → Prop} {env : Env} {L : Addr} {h₀ : Heap} {m : Str → Option Value} {s : Shared}

theorem MapOf.keeps {K : Type} [DecidableEq K] {knd : KeyKind prog w K} {h h' : Heap} {a : Addr} {f : K → Option Value} (x : h.MapOf knd a f) (hk : ∀ b o, h.get? b = some o → h'.get? b = some o) : h'.MapOf knd a f :=
  let ⟨o, es, ep, ho, r⟩ := x; ⟨o, es, ep, hk _ _ ho, r⟩

theorem dict2 {k1 k2 : Str} {n1 n2 : Nat} {p1 p2 pd : Pos} {e1 e2 : Expr} {c1 c2 : PyData} {Q : Value → Shared → Prop} (hne : k1 ≠ k2) (ce1 : CE e1 c1) (ce2 : CE e2 c2) (F : Fr h₀ L s.heap m) (h3 : 3 < s.heap.objs.size)
    (h : ∀ d v1 v2 s', Qf h₀ L m s s' → Rd (Fresh s) s'.heap v1 c1 → Rd (Fresh s) s'.heap v2 c2 → s'.heap.MapOf (strKind prog w) d (valueAt [(k1, v1), (k2, v2)]) → (d == sysModules) = false → Q (.ref d) s') :
    wpAny (model prog w) A (eval (.Dict [some (.Constant (.str k1) n1 p1), some (.Constant (.str k2) n2 p2)] [e1, e2] pd) env) Q E s := by
  refine wpAny_Dict_pairs (knd := strKind prog w) (pairs := [(eval (.Constant (.str k1) n1 p1) env, do let x ← eval e1 env; standAt pd; pure x), (eval (.Constant (.str k2) n2 p2) env, do let x ← eval e2 env; standAt pd; pure x)]) rfl (by simp) (by simp) ?_
  have F₀ : Fr h₀ L (s.heap.push { cls := .type "dict", data := .dict #[] }) m := F.push _
  generalize hH : s.heap.push { cls := .type "dict", data := .dict #[] } = H at F₀ ⊢
  have hD : H.DictOf (strKind prog w) s.heap.objs.size [] := hH ▸ Heap.DictOf.new (knd := strKind prog w) s.heap
  have hHs : H.objs.size = s.heap.objs.size + 1 := by rw [← hH, Heap.size_push]
  have up : ∀ b o, s.heap.get? b = some o → H.get? b = some o := fun b o e => hH ▸ Heap.get?_push_of_some _ e
  refine evalPairs_cons ?_
  refine wpAny_Constant_str ?_
  refine wpAny_bind ?_
  refine' CE.eval ce1 ?f ?k
  case f => exact F₀
  case k =>
    intro v1 s₁ q₁ r₁
    refine wpAny_bind (wpAny_standAt (wpAny_pure ?_))
    refine evalPairs_cons ?_
    refine wpAny_Constant_str ?_
    refine wpAny_bind ?_
    refine' CE.eval ce2 ?f ?k
    case f => exact q₁.fr
    case k =>
      intro v2 s₂ q₂ r₂
      refine wpAny_bind (wpAny_standAt (wpAny_pure ?_))
      refine evalPairs_nil ?_
      have q₁₂ : ∀ b o, H.get? b = some o → s₂.heap.get? b = some o := fun b o e => q₂.keep b o (q₁.keep b o e)
      refine ⟨[(k1, v1), (k2, v2)], ⟨strKind_is prog w _ _, rfl, strKind_is prog w _ _, rfl, trivial⟩, ?_, ?_⟩
      · obtain ⟨o, es, ep, ho, r⟩ := hD
        exact ⟨o, es, ep, q₁₂ _ _ ho, r⟩
      · intro h' hd hs
        have em : merged [] [(k1, v1), (k2, v2)] = [(k1, v1), (k2, v2)] := by
          have : ¬ k1 = k2 := hne
          simp [merged, stored, this]
        rw [em] at hd
        have lo : Lo (Fresh s) s₂.heap h' := fun b o xs n _ e dd => hs.extBut b o (fun hb => by
          obtain ⟨o', es, ep, ho, hx, hdd, _⟩ := hD
          have := q₁₂ _ _ ho
          rw [hb, this] at e; cases e; rw [hdd] at dd; cases dd) e
        have hle : s.heap.objs.size ≤ s₂.heap.objs.size := Nat.le_trans (Nat.le_trans (Nat.le_trans (Nat.le_succ _) (Nat.le_of_eq hHs.symm)) q₁.size) q₂.size
        refine h _ v1 v2 _ ⟨⟨fun b o e => hs.extBut b o (Nat.ne_of_lt (Heap.lt_size e)) (q₁₂ b o (up b o e)), q₂.gens.trans q₁.gens, q₂.os.trans q₁.os⟩, ?_, Nat.le_trans hle (Nat.le_of_eq hs.1.symm)⟩ ?_ ?_ hd.mapOf ?_
        · have F₂ := q₂.fr
          have hLs : L < s.heap.objs.size := F.ns.lt
          exact ⟨F₂.ns.sameBut hs (Nat.ne_of_lt hLs), fun b o e => hs.extBut b o (Nat.ne_of_lt (Nat.lt_of_lt_of_le (Heap.lt_size e) (Nat.le_trans F.above (Nat.le_of_lt hLs)))) (F₂.keep b o e), F.above⟩
        · refine Rd.lq lo ((r₁.lq (.of_keep q₂.keep)).weak fun b kb => ?_)
          exact Nat.le_trans (Nat.le_trans (Nat.le_succ _) (Nat.le_of_eq hHs.symm)) kb
        · refine Rd.lq lo (r₂.weak fun b kb => ?_)
          exact Nat.le_trans (Nat.le_trans (Nat.le_trans (Nat.le_succ _) (Nat.le_of_eq hHs.symm)) q₁.size) kb
        · have : s.heap.objs.size ≠ sysModules := by
            intro e; rw [e] at h3; exact absurd h3 (by decide)
          simpa using this

/-- d.get(key, dflt), the key and the default as they come -/
theorem dict_get {d : Addr} {f : Str → Option Value} {x : Str} {t : Tok} {dv : Value} {Q : Value → Shared → Prop} (hd : (d == sysModules) = false) (hm : s.heap.MapOf (strKind prog w) d f) (h : Q ((f x).getD dv) { s with toks := s.toks + 1 }) :
    wpAny (model prog w) A (call (.builtin "dict.get") [.ref d, .str x t, dv]) Q E s :=
  call_meetsIn PySem.F.slot_dict_get hm.typeIs PySem.F.entry_dict_get (PySem.F.args_dict_get_3 _ _ _) (meets_dict_get_default (strKind prog w) d (strKind_is prog w x t) hd dv) ⟨_, hm, h⟩
theorem dict_meth {d : Addr} {f : Str → Option Value} {pl : Sem Bool} {Q : Value × List Value → Shared → Prop} (hm : s.heap.MapOf (strKind prog w) d f) (h : Q (.builtin "dict.get", [.ref d]) s) :
    wpAny (model prog w) A (getMethod (.ref d) "get" pl) Q E s :=
  getMethod_builtin hm.typeIs PySem.F.plainAttrs_dict PySem.F.slot_dict_get PySem.F.type_dict_get hm.noDict h
end
end Mine
end
section
open PySem PySem.W PyProof.Rows PySem.Calls
set_option maxRecDepth 100000
set_option maxHeartbeats 400000
namespace Mine
section
variable {prog : Program} {w : World} {A : Around} {E : Value → Shared → Prop} {env : Env} {L : Addr} {h₀ : Heap} {m : Str → Option Value} {s : Shared}
theorem addL {ok : Addr → Prop} {l b : Value} {ds es : List PyData} {Q : Value → Shared → Prop} (F : Fr h₀ L s.heap m) (r1 : Rd ok s.heap l (.list ds)) (r2 : Rd ok s.heap b (.list es)) (hsz : ds.length + es.length ≤ 100000)
    (h : ∀ c s', Qf h₀ L m s s' → Rd (fun b => ok b ∨ s.heap.objs.size ≤ b) s'.heap (.ref c) (.list (ds ++ es)) → Q (.ref c) s') :
    wpAny (model prog w) A (binaryOp .Add l b) Q E s := by
  obtain ⟨l, rfl⟩ := r1.isRefL
  obtain ⟨b, rfl⟩ := r2.isRefL
  obtain ⟨vs, hl, ra, _⟩ := r1.listOf
  obtain ⟨ws, hb, rb, _⟩ := r2.listOf
  have hl1 := ra.length
  have hl2 := rb.length
  obtain ⟨⟨cls, dd, data, sl⟩, ho, hc, n, hd⟩ := id hl
  obtain ⟨⟨cls2, dd2, data2, sl2⟩, ho2, hc2, n2, hd2⟩ := id hb
  simp only at hc hd hc2 hd2
  subst hc hd hc2 hd2
  have e : vs.toArray ++ ws.toArray = (vs ++ ws).toArray := by simp
  refine concat_meets ⟨_, ho, rfl⟩ ⟨_, ho2, rfl⟩ noFill_list_add seq_list_add PySem.F.slot_list_add PySem.F.entry_list_add (PySem.F.args_list_add_2 _ _) (list_addW l b vs.toArray ws.toArray n n2 dd dd2 sl sl2 ?_) ⟨ho, ho2, ?_⟩
  · have : 100000 ≤ sizeLine := by unfold sizeLine; decide
    simp; omega
  rw [e]
  refine h _ _ ⟨⟨fun _ _ e => Heap.get?_push_of_some _ e, rfl, rfl⟩, F.push _, by rw [Heap.size_push]; exact Nat.le_succ _⟩ ?_
  exact .list (.inr (Nat.le_refl _)) (Heap.get?_push_size _ rfl) rfl rfl (by simpa using ((ra.append rb).lq (.push _ _)).weak fun _ => .inl)
end

/-- what the machine sees of a part in the whole name -/
def Part.seen (p : Part) : List PyData := if p.text == (" 6 " : Str) then [.int 100, .int 6] else p.ranks
def dSeen : PyData → List PyData
  | .tuple (.str x :: _ :: .list r :: _) => if x == (" 6 " : Str) then [.int 100, .int 6] else r
  | _ => []
theorem seen_ok {p : Part} (h : p.ranks.length ≤ 100 ∧ ∀ r ∈ p.ranks, flat r) : p.seen.length ≤ 100 ∧ ∀ r ∈ p.seen, flat r := by
  unfold Part.seen
  cases p.text == (" 6 " : Str) with
  | true => exact ⟨by simp, fun r hr => by simp at hr; rcases hr with rfl | rfl <;> exact trivial⟩
  | false => exact h
def kindRanks (k : Str) : List PyData := if k = "win32" then [.int 0, .str "win", .int 100, .int 32] else if k = "win16" then [.int 0, .str "win", .int 100, .int 16] else [.int 0, .str k]

theorem seen_spec {prog : Program} {w : World} {A : Around} {s : Shared} {mg mb : Str → Option Value} {E : Value → Shared → Prop} {ps : List Part} {v : Value} {k : Str} {tk : Tok} {Q : Value → Shared → Prop}
   (G : Gd w mg mb s.heap) (hd : A.depth < 600) (hh : A.handled = none) (hr : Rd Every s.heap v (.list (ps.map Part.d))) (hlen : ps.length ≤ 500) (hrk : ∀ p ∈ ps, p.ranks.length ≤ 100 ∧ ∀ r ∈ p.ranks, flat r)
   (h : ∀ r s', Qt s s' → Rd Every s'.heap r (.list (kindRanks k ++ ps.flatMap Part.seen)) → Q r s') :
   wpAny (model prog w) A (call (.ref 95) [.str k tk, v]) Q E s := by
  refine enter G rfl rfl (by unfold recursionLimit; omega) (BindsTo.of_eq rfl) (locs rfl) ?_
  intro h₁ F
  have h3 : 3 < h₁.objs.size := (G.T.g.keeps F.keep).lt
  refine wpAny_execs_cons ?_
  refine wpAny_Assign_Name ?_
  refine MethodCall_ ?_
  refine' dict2 (c1 := .list [.int 0, .str "win", .int 100, .int 32]) (c2 := .list [.int 0, .str "win", .int 100, .int 16]) ?hne ?c1 ?c2 ?F ?h3 ?k
  case hne => decide
  case c1 => exact .list (.cons .int (.cons .str (.cons .int (.cons .int .nil)))) (by decide)
  case c2 => exact .list (.cons .int (.cons .str (.cons .int (.cons .int .nil)))) (by decide)
  case F => exact F
  case h3 => exact h3
  case k =>
  intro d v1 v2 s₁ q₁ r1 r2 hm hsys
  refine dict_meth hm ?_
  refine callWith_method1 ?_
  refine args_cons ?_
  refine ld q₁.fr rfl ?_
  refine args_cons ?_
  refine List_ ?_
  refine wpAny_items_cons ?_
  refine wpAny_Constant_int ?_
  refine wpAny_items_cons ?_
  refine ld q₁.fr rfl ?_
  refine wpAny_items_nil ?_
  refine newList' (ok := Every) q₁.fr (.cons (.int _ _) (.cons (.str _ _) .nil)) fun a s₂ q₂ r₃ => ?_
  refine args_nil ?_
  refine dict_get hsys (MapOf.keeps hm q₂.keep) ?_
  have rt : Rd Every s₂.heap ((valueAt [(Str.ofString "win32", v1), (Str.ofString "win16", v2)] k).getD (.ref a)) (.list (kindRanks k)) := by
    unfold kindRanks valueAt
    by_cases h1 : k = "win32"
    · rw [if_pos h1]; subst h1
      exact (r1.all).lq (.of_keep q₂.keep)
    · rw [if_neg h1]
      by_cases h2 : k = "win16"
      · rw [if_pos h2]; subst h2
        exact (r2.all).lq (.of_keep q₂.keep)
      · rw [if_neg h2]
        have e1 : ¬ (Str.ofString "win32" = k) := fun e => h1 e.symm
        have e2 : ¬ (Str.ofString "win16" = k) := fun e => h2 e.symm
        simp only [List.find?_cons, e1, e2, decide_false, List.find?_nil, Option.map_none, Option.getD_none]
        exact r₃.all
  generalize hv : (valueAt [(Str.ofString "win32", v1), (Str.ofString "win16", v2)] k).getD (.ref a) = tv at rt ⊢
  refine st' (s := { s₂ with toks := s₂.toks + 1 }) q₂.fr fun s₃ S₃ F₃ => ?_
  refine wpAny_execs_cons ?_
  refine wpAny_Return_some ?_
  refine wpAny_BinOp ?_
  refine ld F₃ rfl ?_
  have rt₃ := rt.lq S₃.lq
  have hr₃ : Rd Every s₃.heap v (.list (ps.map Part.d)) := hr.lq (.of_keep F₃.keep)
  refine comp2 dSeen hh (by decide) (by decide) rfl (by decide) rfl rfl (by decide) (fun _ _ => rfl) ?_
  refine ld F₃ rfl ?_
  refine ⟨_, hr₃, by simpa using Nat.le_trans hlen (by decide), ?_, ?_, ?_⟩
  · intro d hd
    obtain ⟨p, hp, rfl⟩ := List.mem_map.mp hd
    exact seen_ok (hrk p hp)
  · intro C v d s₄ m₄ E' Q' hdm rv hn hm q hsz hQ
    refine wpAny_IfExp ?_
    refine wpAny_isTrue_Compare1 ?_
    refine elt_item (i := 0) (f := d0) rfl rfl (by decide) (by decide) (fun _ => rfl) hdm rv hn hm q fun z tk rz => ?_
    refine wpAny_Constant_str ?_
    obtain ⟨p, hp, rfl⟩ := List.mem_map.mp hdm
    obtain ⟨tz, rfl⟩ := rz.isStr
    refine PyProof.Rows.eq_str ?_
    refine wpAny_truthy_bool ?_
    have hS : dSeen p.d = if p.text == (" 6 " : Str) then [.int 100, .int 6] else p.ranks := rfl
    cases hc : (p.text == (" 6 " : Str)) with
    | true =>
      rw [hc] at hS
      simp only [if_true]
      refine List_ ?_
      refine wpAny_items_cons ?_
      refine wpAny_Constant_int ?_
      refine wpAny_items_cons ?_
      refine wpAny_Constant_int ?_
      refine wpAny_items_nil ?_
      refine wpAny_newList ?_
      refine hQ _ _ ⟨fun _ _ e => Heap.get?_push_of_some _ e, rfl, rfl⟩ (by show s₄.heap.objs.size ≤ (Heap.push s₄.heap _).objs.size; rw [Heap.size_push]; exact Nat.le_succ _) ?_
      refine Rd.to (d := .list [.int 100, .int 6]) ?_ (congrArg PyData.list hS.symm)
      exact .list (.inr (Nat.le_refl _)) (Heap.get?_push_size _ rfl) rfl rfl (.cons (.int _ _) (.cons (.int _ _) .nil))
    | false =>
      rw [hc] at hS
      simp only [Bool.false_eq_true, if_false]
      refine elt_item (ps := ps) (s₁ := s₃) (i := 2) (f := fun d => .list (d2 d)) (m₂ := m₄) rfl rfl (by decide) (by decide) (fun _ => rfl) hdm rv hn hm ⟨q.keep, q.gens, q.os⟩ fun z tk rz => ?_
      refine hQ z _ ⟨fun _ _ e => e, rfl, rfl⟩ (Nat.le_refl _) (((rz.lq (.of_keep q.keep)).weak fun _ => .inl).to (congrArg PyData.list hS.symm))
  · intro D s₄ q hsz _ rD
    have F₄ : Fr s.heap s.heap.objs.size s₄.heap _ := ⟨F₃.ns.keeps q.keep, fun b o e => q.keep b o (F₃.keep b o e), F₃.above⟩
    refine addL F₄ (rt₃.lq (.of_keep q.keep)) rD ?_ fun c s₅ q₅ r₅ => ?_
    · have h1 : (kindRanks k).length ≤ 4 := by unfold kindRanks; split; decide; split; decide; simp
      have h2 : ∀ l : List PyData, (∀ d ∈ l, (dSeen d).length ≤ 100) → (l.flatMap dSeen).length ≤ 100 * l.length := by
        intro l
        induction l with
        | nil => intro _; simp
        | cons d l ih =>
          intro hl
          have a1 := hl d List.mem_cons_self
          have a2 := ih fun d hd => hl d (List.mem_cons_of_mem _ hd)
          simp only [List.flatMap_cons, List.length_append, List.length_cons]; omega
      have h3 := h2 (ps.map Part.d) fun d hd => by
        obtain ⟨p, hp, rfl⟩ := List.mem_map.mp hd
        exact (seen_ok (hrk p hp)).1
      rw [List.length_map] at h3
      omega
    · refine h _ _ ⟨q₅.fr.keep, ?_, ?_⟩ (r₅.all.to ?_)
      · exact q₅.gens.trans (q.gens.trans (S₃.gens.trans (q₂.gens.trans q₁.gens)))
      · exact q₅.os.trans (q.os.trans (S₃.os.trans (q₂.os.trans q₁.os)))
      · rw [List.flatMap_map]; rfl
end Mine
end
section
open PySem PySem.W PyProof.Rows PySem.Calls
set_option maxRecDepth 100000
set_option maxHeartbeats 400000
namespace Mine
section
variable {prog : Program} {w : World} {A : Around} {E : Value → Shared → Prop} {env : Env} {L : Addr} {h₀ : Heap} {m : Str → Option Value} {s : Shared} {ok : Addr → Prop}

theorem itemT {value slice : Expr} {v : Value} {ds : List PyData} {i : Nat} {u : Tok} {d : PyData} {Q : Value → Shared → Prop} (r : Rd ok s.heap v (.tuple ds)) (hi : i < 1000) (hd : ds[i]? = some d) (h : ∀ z, Rd ok s.heap z d → Q z s)
    (hs : ∀ t, subscripted slice false (.ref t) (.int i u) = operate [.ref t, .int i u] (getItem (.ref t) (.int i u)) := by intro _; with_unfolding_all rfl) :
    wpAny (model prog w) A (subscriptTail value slice v (.int i u)) Q E s := by
  obtain ⟨a, rfl⟩ := r.isRefT
  obtain ⟨vs, ht, ra, _⟩ := r.tupleOf
  obtain ⟨z, hz, rz⟩ := ra.get hd
  have hlt : i < vs.length := (List.getElem?_eq_some_iff.mp hz).1
  exact item_tupleT ht (by omega) (by omega) (j := i) (by have := seqIndex_pos (k := (i : Int)) (n := vs.length) (by omega) (by omega); simpa using this) hz (h z rz) (hs a)
theorem itemL {value slice : Expr} {v : Value} {ds : List PyData} {i : Nat} {u : Tok} {d : PyData} {Q : Value → Shared → Prop} (r : Rd ok s.heap v (.list ds)) (hi : i < 1000) (hd : ds[i]? = some d) (h : ∀ z, Rd ok s.heap z d → Q z s)
    (hs : ∀ t, subscripted slice false (.ref t) (.int i u) = operate [.ref t, .int i u] (getItem (.ref t) (.int i u)) := by intro _; with_unfolding_all rfl) :
    wpAny (model prog w) A (subscriptTail value slice v (.int i u)) Q E s := by
  obtain ⟨a, rfl⟩ := r.isRefL
  obtain ⟨vs, hl, ra, _⟩ := r.listOf
  obtain ⟨z, hz, rz⟩ := ra.get hd
  exact tail_any hl.typeIs slot_list_getitem.lookup (wpAny_getItem_list hl (by omega) (by omega) (by simpa using hz) (h z rz)) (hs a)

/-- x[:j] of a text -/
theorem cutS {value : Expr} {j : Int} {k : Nat} {x : Str} {p p' pos : Pos} {h' : Heap} {Q : Value → Shared → Prop} (_ : Fr h₀ L h' m)
    (hv : wpAny (model prog w) A (eval value env) (fun o s₁ => ∃ t, o = .str x t ∧ Fr h₀ L s₁.heap m ∧ ∀ t' s', Qf h₀ L m s₁ s' → Q (.str (Txt.slice x none (some j)) t') s') E s) (hx : x.length ≤ sizeLine) :
    wpAny (model prog w) A (eval (.Subscript value (.Slice none (some (.Constant (.int j) k p)) none p') pos) env) Q E s := by
  refine PyProof.Rows.Subscript_ (wpAny_mono hv (fun o s₁ h₁ => ?_) fun _ _ e => e)
  obtain ⟨t, rfl, F, hQ⟩ := h₁
  refine wpAny_Slice ?_
  refine wpAny_of_eq (evalPart_none env) ?_
  show wpAny (model prog w) A (eval (.Constant (.int j) k p) env) _ E s₁
  refine wpAny_Constant_int ?_
  refine wpAny_of_eq (evalPart_none env) ?_
  obtain ⟨T, id, hl, hT, hg⟩ := SBH.sliceItem_ns (prog := prog) (w := w) (A := A) (E := E) (t := t) (uj := s₁.toks) (j := j) (Q := Q) (s := { s₁ with toks := s₁.toks + 1 }) (P := fun h => (∀ b o, s₁.heap.get? b = some o → h.get? b = some o) ∧ Fr h₀ L h m ∧ s₁.heap.objs.size ≤ h.objs.size)
    (fun h ob ⟨h1, h2, h3⟩ => ⟨fun b o e => Heap.get?_push_of_some _ (h1 b o e), h2.push _, by rw [Heap.size_push]; exact Nat.le_succ_of_le h3⟩) ⟨fun _ _ e => e, F, Nat.le_refl _⟩ (fun h' t' k P => hQ t' _ ⟨⟨P.1, rfl, rfl⟩, P.2.1, P.2.2⟩) hx
  exact tail_any hT hl hg (by with_unfolding_all rfl)

/-- xs[i:] of a list -/
theorem cutL_from {value : Expr} {i : Nat} {k : Nat} {p p' pos : Pos} {h' : Heap} {Q : Value → Shared → Prop} (_ : Fr h₀ L h' m)
    (hv : wpAny (model prog w) A (eval value env) (fun o s₁ => ∃ ds, Rd ok s₁.heap o (.list ds) ∧ i ≤ ds.length ∧ ds.length ≤ 100000 ∧ Fr h₀ L s₁.heap m ∧ ∀ c s', Qf h₀ L m s₁ s' → Rd (fun b => ok b ∨ s₁.heap.objs.size ≤ b) s'.heap (.ref c) (.list (ds.drop i)) → Q (.ref c) s') E s)
    (ht : ∀ o r, letTemporaryGo value o r = pure () := by intro _ _; rfl) :
    wpAny (model prog w) A (eval (.Subscript value (.Slice (some (.Constant (.int i) k p)) none none p') pos) env) Q E s := by
  refine wpAny_Subscript_list_slice (wpAny_mono hv (fun o s₁ h₁ => ?_) fun _ _ e => e) ht
  obtain ⟨ds, r, hi, hsz, F, hQ⟩ := h₁
  obtain ⟨a, rfl⟩ := r.isRefL
  obtain ⟨vs, hl, ra, _⟩ := r.listOf
  have hlen := ra.length
  rw [evalPart_some]
  refine wpAny_Constant_int ?_
  rw [evalPart_none]
  refine wpAny_pure ⟨a, vs.toArray, some (i : Int), none, rfl, hl, ?_, .int _ _, .none, ?_⟩
  · have : 100000 ≤ sizeLine := by unfold sizeLine; decide
    simp; omega
  rw [slicePick_from vs.toArray i (by simp; omega)]
  refine hQ _ _ ⟨⟨fun _ _ e => Heap.get?_push_of_some _ (Heap.get?_push_of_some _ e), rfl, rfl⟩, (F.push _).push _, by rw [Heap.size_push, Heap.size_push]; exact Nat.le_add_right _ 2⟩ ?_
  have e1 : (s₁.heap.push { cls := .type "slice", data := .fields #[.int i s₁.toks, .none, .none] }).objs.size = s₁.heap.objs.size + 1 := Heap.size_push ..
  refine .list (.inr (Nat.le_succ _)) (o := { cls := .type "list", data := .seq (vs.drop i).toArray }) ?_ rfl rfl ?_
  · rw [← e1]; exact Heap.get?_push_size _ rfl
  · simpa using (((ra.drop i).lq (.push _ _)).lq (.push _ _)).weak fun _ => .inl
/-- xs[:i] of a list -/
theorem cutL_to {value : Expr} {i : Nat} {k : Nat} {p p' pos : Pos} {h' : Heap} {Q : Value → Shared → Prop} (_ : Fr h₀ L h' m)
    (hv : wpAny (model prog w) A (eval value env) (fun o s₁ => ∃ ds, Rd ok s₁.heap o (.list ds) ∧ ds.length ≤ 100000 ∧ Fr h₀ L s₁.heap m ∧ ∀ c s', Qf h₀ L m s₁ s' → Rd (fun b => ok b ∨ s₁.heap.objs.size ≤ b) s'.heap (.ref c) (.list (ds.take i)) → Q (.ref c) s') E s)
    (ht : ∀ o r, letTemporaryGo value o r = pure () := by intro _ _; rfl) :
    wpAny (model prog w) A (eval (.Subscript value (.Slice none (some (.Constant (.int i) k p)) none p') pos) env) Q E s := by
  refine wpAny_Subscript_list_slice (wpAny_mono hv (fun o s₁ h₁ => ?_) fun _ _ e => e) ht
  obtain ⟨ds, r, hsz, F, hQ⟩ := h₁
  obtain ⟨a, rfl⟩ := r.isRefL
  obtain ⟨vs, hl, ra, _⟩ := r.listOf
  have hlen := ra.length
  rw [evalPart_none]
  refine wpAny_pure ?_
  rw [evalPart_some]
  refine wpAny_Constant_int ⟨a, vs.toArray, none, some (i : Int), rfl, hl, ?_, .none, .int _ _, ?_⟩
  · have : 100000 ≤ sizeLine := by unfold sizeLine; decide
    simp; omega
  have e0 : slicePick vs.toArray none (some (i : Int)) none = (vs.take i).toArray := by
    by_cases h : i ≤ vs.length
    · simpa using slicePick_upto vs.toArray i (by simpa using h)
    · have h1 : vs.take i = vs := List.take_of_length_le (by omega)
      have h2 := slicePick_upto vs.toArray vs.length (by simp)
      rw [h1]
      have h3 : sliceBounds none (some (i : Int)) none vs.toArray.size = sliceBounds none (some (vs.length : Int)) none vs.toArray.size := by
        simp [sliceBounds]; omega
      unfold slicePick at h2 ⊢
      rw [h3]
      simpa using h2
  rw [e0]
  refine hQ _ _ ⟨⟨fun _ _ e => Heap.get?_push_of_some _ (Heap.get?_push_of_some _ e), rfl, rfl⟩, (F.push _).push _, by rw [Heap.size_push, Heap.size_push]; exact Nat.le_add_right _ 2⟩ ?_
  have e1 : (s₁.heap.push { cls := .type "slice", data := .fields #[.none, .int i s₁.toks, .none] }).objs.size = s₁.heap.objs.size + 1 := Heap.size_push ..
  refine .list (.inr (Nat.le_succ _)) (o := { cls := .type "list", data := .seq (vs.take i).toArray }) ?_ rfl rfl ?_
  · rw [← e1]; exact Heap.get?_push_size _ rfl
  · simpa using (((ra.take i).lq (.push _ _)).lq (.push _ _)).weak fun _ => .inl
end
end Mine
end
section
open PySem PySem.W PyProof.Rows PySem.Calls
set_option maxRecDepth 100000
set_option maxHeartbeats 400000
namespace Mine
def gt4 (p : Part) : Bool := decide ((Str.ofString "4").cps.toList < (Txt.slice p.text none (some 1)).cps.toList)
def lessP (p : Part) : Part := match p.num with | some n => plainP (n - 3) | none => p
def midP (k : Str) (p : Part) (r : List Part) : Str × List Part := if k == ("SunOS" : Str) && gt4 p then ("Solaris", lessP p :: r) else (k, p :: r)
def winK (k : Str) : Str := if k = "win32" then "Windows" else if k = "win16" then "Windows" else k

theorem callDef {prog : Program} {w : World} {A : Around} {s : Shared} {mg mb : Str → Option Value} {E : Value → Shared → Prop} {env : Env} {pos : Pos} {f : Addr} {oc : Value} {od : Option Addr} {fd : FuncData} {osl : Array (Option Value)} {e : Expr} {rest : List Expr} {Q : Value → Shared → Prop}
    (ho : (KF w).lookup f = some ⟨oc, od, .func fd, osl⟩)
    (h : wpAny (model prog w) A (spliced (backTo pos (starEach (e :: rest) env))) (fun vs s₁ => Gd w mg mb s₁.heap ∧ wpAny (model prog w) A (call (.ref f) vs) Q E s₁) E s)
    (he : starEach (e :: rest) env = (false, eval e env) :: starEach rest env := by rfl) :
    wpAny (model prog w) A (callWith pos (.ref f) [] (backTo pos (starEach (e :: rest) env)) []) Q E s :=
  callWith_def (o := ⟨oc, od, .func fd, osl⟩) (fd := fd) rfl (wpAny_mono h (fun _ _ h₁ => ⟨h₁.1.K _ _ ho, h₁.2⟩) fun _ _ e => e) he

theorem lalias_spec {prog : Program} {w : World} {A : Around} {s : Shared} {mg mb : Str → Option Value} {E : Value → Shared → Prop} {p : Part} {r : List Part} {v : Value} {k : Str} {tk : Tok} {Q : Value → Shared → Prop}
   (G : Gd w mg mb s.heap) (hd : A.depth < 500) (hr : Rd Every s.heap v (.list ((p :: r).map Part.d))) (hlen : (p :: r).length ≤ 1000) (hn : ∀ n, p.num = some n → n.natAbs < 5000) (ht : p.text.length ≤ 1000)
   (h : ∀ z s', Qt s s' → Rd Every s'.heap z (.tuple [.str (winK (midP k p r).1), .list ((midP k p r).2.map Part.d)]) → Q z s') :
   wpAny (model prog w) A (call (.ref 102) [.str k tk, v]) Q E s := by
  have M := G.nm
  refine enter G rfl rfl (by unfold recursionLimit; omega) (BindsTo.of_eq rfl) (locs rfl) ?_
  intro h₁ F
  have hr₁ : Rd Every h₁ v (.list ((p :: r).map Part.d)) := hr.lq (.of_keep F.keep)
  refine wpAny_execs_cons ?_
  refine wpAny_mono (Q := fun f s₁ => ∃ m' k' l t v', f = .next ∧ Fr s.heap s.heap.objs.size s₁.heap m' ∧ m' "kind" = some (.str k' t) ∧ m' "old" = some v' ∧ Rd Every s₁.heap v' (.list (l.map Part.d)) ∧ (k', l) = midP k p r ∧ s₁.gens = s.gens ∧ s₁.os = s.os)
    (E := fun _ _ => False) ?_ ?_ (fun _ _ e => e.elim)
  · refine wpAny_If ?_
    refine wpAny_isTrue_BoolOp ?_
    refine wpAny_allTrue_And_cons ?_
    refine wpAny_isTrue_Compare1 ?_
    refine ld F rfl ?_
    refine wpAny_Constant_str ?_
    refine PyProof.Rows.eq_str ?_
    refine wpAny_truthy_bool ?_
    unfold midP
    cases hk : (k == ("SunOS" : Str)) with
    | false =>
      simp only [Bool.false_eq_true, if_false, Bool.false_and]
      refine wpAny_execs_nil ?_
      exact ⟨_, k, p :: r, tk, v, rfl, F, rfl, rfl, hr₁, rfl, rfl, rfl⟩
    | true =>
      simp only [if_true, Bool.true_and]
      refine wpAny_allTrue_And_cons ?_
      refine wpAny_isTrue_Compare1 ?_
      refine cutS (x := p.text) F ?_ (Nat.le_trans ht (by unfold sizeLine; decide))
      refine PyProof.Rows.Subscript_ ?_
      refine PyProof.Rows.Subscript_ ?_
      refine ld F rfl ?_
      refine wpAny_Constant_int ?_
      refine itemL (i := 0) hr₁ (by decide) rfl fun z rz => ?_
      refine wpAny_Constant_int ?_
      refine itemT (i := 0) rz (by decide) rfl fun z rz => ?_
      obtain ⟨t0, rfl⟩ := rz.isStr
      refine ⟨t0, rfl, F, fun t' s₂ q₂ => ?_⟩
      refine wpAny_Constant_str ?_
      refine P.gt_str ?_
      refine wpAny_truthy_bool ?_
      have F₂ := q₂.fr
      have hr₂ := hr₁.lq (.of_keep q₂.keep)
      cases hg : gt4 p with
      | false =>
        unfold gt4 at hg
        rw [hg]
        simp only [Bool.false_eq_true, if_false]
        refine wpAny_execs_nil ?_
        exact ⟨_, k, p :: r, tk, v, rfl, F₂, rfl, rfl, hr₂, rfl, q₂.gens, q₂.os⟩
      | true =>
        unfold gt4 at hg
        rw [hg]
        simp only [if_true]
        refine wpAny_allTrue_And_nil ?_
        simp only [if_true]
        refine wpAny_execs_cons ?_
        refine wpAny_Assign_Name ?_
        refine wpAny_Constant_str ?_
        refine st' (s := { s₂ with toks := s₂.toks + 1 + 1 }) F₂ fun s₃ S₃ F₃ => ?_
        have hr₃ := hr₂.lq S₃.lq
        have g₃ : s₃.gens = s.gens := S₃.gens.trans q₂.gens
        have o₃ : s₃.os = s.os := S₃.os.trans q₂.os
        refine wpAny_execs_cons ?_
        refine wpAny_If ?_
        refine wpAny_isTrue_Compare1 ?_
        refine PyProof.Rows.Subscript_ ?_
        refine PyProof.Rows.Subscript_ ?_
        refine ld F₃ rfl ?_
        refine wpAny_Constant_int ?_
        refine itemL (i := 0) hr₃ (by decide) rfl fun z rz => ?_
        refine wpAny_Constant_int ?_
        refine itemT (i := 1) rz (by decide) rfl fun z rz => ?_
        refine wpAny_Constant_none ?_
        refine isNot_none ?_
        refine wpAny_truthy_bool ?_
        cases hnum : p.num with
        | none =>
          have : p.n = .none := by unfold Part.n; rw [hnum]
          rw [this] at rz
          rw [rz.isNone]
          simp only [beq_self_eq_true, Bool.not_true, Bool.false_eq_true, if_false]
          refine wpAny_execs_nil ?_
          refine wpAny_execs_nil ?_
          refine ⟨_, "Solaris", p :: r, _, v, rfl, F₃, rfl, rfl, hr₃, ?_, g₃, o₃⟩
          unfold lessP; rw [hnum]
        | some n =>
          have : p.n = .int n := by unfold Part.n; rw [hnum]
          rw [this] at rz
          obtain ⟨tn, rfl⟩ := rz.isInt
          have hb : (Value.int n tn == Value.none) = false := rfl
          simp only [hb, Bool.not_false, if_true]
          refine wpAny_execs_cons ?_
          refine wpAny_Assign_Name ?_
          refine wpAny_BinOp ?_
          refine List_ ?_
          refine wpAny_items_cons ?_
          refine Call_ ?_
          refine ld_global_at F₃ G.T.g M.lplain ?_
          refine callDef (mg := mg) (mb := mb) rfl ?_
          refine args_cons ?_
          refine wpAny_BinOp ?_
          refine PyProof.Rows.Subscript_ ?_
          refine PyProof.Rows.Subscript_ ?_
          refine ld F₃ rfl ?_
          refine wpAny_Constant_int ?_
          refine itemL (i := 0) hr₃ (by decide) rfl fun z rz => ?_
          refine wpAny_Constant_int ?_
          refine itemT (i := 1) rz (by decide) rfl fun z rz => ?_
          rw [this] at rz
          obtain ⟨tn', rfl⟩ := rz.isInt
          refine wpAny_Constant_int ?_
          refine sub_int' ?_
          refine args_nil ?_
          have G₃ : Gd w mg mb s₃.heap := G.keeps F₃.keep
          refine ⟨G₃, ?_⟩
          refine plain_spec G₃ (by show A.depth + 1 < 600; omega) (by have := hn n hnum; omega) fun z s₄ q₄ rz₄ => ?_
          have F₄ : Fr s.heap s.heap.objs.size s₄.heap _ := ⟨F₃.ns.keeps q₄.keep, fun b o e => q₄.keep b o (F₃.keep b o e), F₃.above⟩
          refine wpAny_items_nil ?_
          refine newList' F₄ (.cons rz₄.all .nil) fun a s₅ q₅ r₅ => ?_
          refine cutL_from (i := 1) (ok := Every) q₅.fr ?_
          refine ld q₅.fr rfl ?_
          have hr₅ : Rd Every s₅.heap v (.list ((p :: r).map Part.d)) := (hr₃.lq (.of_keep q₄.keep)).lq (.of_keep q₅.keep)
          refine ⟨_, hr₅, by simp, by simp at hlen ⊢; omega, q₅.fr, fun c s₆ q₆ r₆ => ?_⟩
          refine addL q₆.fr (r₅.all.lq (.of_keep q₆.keep)) r₆.all (by simp at hlen ⊢; omega) fun c s₇ q₇ r₇ => ?_
          refine st' q₇.fr fun s₈ S₈ F₈ => ?_
          refine wpAny_execs_nil ?_
          refine wpAny_execs_nil ?_
          refine ⟨_, "Solaris", lessP p :: r, _, .ref c, rfl, F₈, rfl, rfl, (r₇.all.lq S₈.lq).to ?_, rfl, ?_, ?_⟩
          · unfold lessP; rw [hnum]; rfl
          · exact S₈.gens.trans (q₇.gens.trans (q₆.gens.trans (q₅.gens.trans (q₄.gens.trans g₃))))
          · exact S₈.os.trans (q₇.os.trans (q₆.os.trans (q₅.os.trans (q₄.os.trans o₃))))
  · rintro f s₁ ⟨m', k', l, t, v', rfl, F₁, hm1, hm2, r₁, hkl, g₁, o₁⟩
    refine wpAny_execs_cons ?_
    refine wpAny_Return_some ?_
    refine Tuple_ ?_
    refine wpAny_items_cons ?_
    refine MethodCall_ ?_
    have h3 : 3 < s₁.heap.objs.size := (G.T.g.keeps F₁.keep).lt
    refine' dict2 (c1 := .str "Windows") (c2 := .str "Windows") ?hne ?c1 ?c2 ?F ?h3 ?k
    case hne => decide
    case c1 => exact .str
    case c2 => exact .str
    case F => exact F₁
    case h3 => exact h3
    case k =>
    intro d v1 v2 s₂ q₂ r1 r2 hm hsys
    refine dict_meth hm ?_
    refine callWith_method1 ?_
    refine args_cons ?_
    refine ld q₂.fr hm1 ?_
    refine args_cons ?_
    refine ld q₂.fr hm1 ?_
    refine args_nil ?_
    refine dict_get hsys hm ?_
    have rt : Rd Every s₂.heap ((valueAt [(Str.ofString "win32", v1), (Str.ofString "win16", v2)] k').getD (.str k' t)) (.str (winK k')) := by
      unfold winK valueAt
      by_cases h1 : k' = "win32"
      · rw [if_pos h1]; subst h1
        exact r1.all
      · rw [if_neg h1]
        by_cases h2 : k' = "win16"
        · rw [if_pos h2]; subst h2
          exact r2.all
        · rw [if_neg h2]
          have e1 : ¬ (Str.ofString "win32" = k') := fun e => h1 e.symm
          have e2 : ¬ (Str.ofString "win16" = k') := fun e => h2 e.symm
          simp only [List.find?_cons, e1, e2, decide_false, List.find?_nil, Option.map_none, Option.getD_none]
          exact .str _ _
    generalize hv : (valueAt [(Str.ofString "win32", v1), (Str.ofString "win16", v2)] k').getD (.str k' t) = tv at rt ⊢
    refine wpAny_items_cons ?_
    refine ld (s := { s₂ with toks := s₂.toks + 1 }) q₂.fr hm2 ?_
    refine wpAny_items_nil ?_
    refine newTuple' (s := { s₂ with toks := s₂.toks + 1 }) q₂.fr (.cons rt (.cons (r₁.lq (.of_keep q₂.keep)) .nil)) fun a s₃ q₃ r₃ => ?_
    refine h _ _ ⟨q₃.fr.keep, ?_, ?_⟩ (r₃.all.to ?_)
    · exact q₃.gens.trans (q₂.gens.trans g₁)
    · exact q₃.os.trans (q₂.os.trans o₁)
    · rw [← hkl]
end Mine
end
section
open PySem PySem.W PyProof.Rows PySem.Calls
set_option maxRecDepth 100000
set_option maxHeartbeats 400000
namespace Mine
def Part.plain (p : Part) : Part := match p.num with | some n => plainP n | none => p
def normP (ps : List Part) : List Part := (if ps.all (fun p => p.num.isSome) then ps.map Part.plain else ps).take 3
def dPlain (d : PyData) : PyData := match d1 d with | .int n => plainD n | _ => d

theorem none_any {ok : Addr → Prop} {h : Heap} : ∀ {vs : List Value} {ps : List Part}, RdAll ok h vs (ps.map Part.n) → vs.any (fun v => v == .none) = !ps.all (fun p => p.num.isSome)
  | _, [], .nil => rfl
  | _, p :: ps, .cons a b => by
    have ih := none_any b
    rw [List.any_cons, List.all_cons, ih]
    unfold Part.n at a
    cases hp : p.num with
    | none => rw [hp] at a; rw [a.isNone]; simp
    | some n => rw [hp] at a; obtain ⟨t, rfl⟩ := a.isInt; simp

theorem lnorm_spec {prog : Program} {w : World} {A : Around} {s : Shared} {mg mb : Str → Option Value} {E : Value → Shared → Prop} {ps : List Part} {v : Value} {Q : Value → Shared → Prop}
   (G : Gd w mg mb s.heap) (hd : A.depth < 500) (hh : A.handled = none) (hr : Rd Every s.heap v (.list (ps.map Part.d))) (hlen : ps.length ≤ 1000) (hn : ∀ p ∈ ps, ∀ n, p.num = some n → n.natAbs < 5000)
   (h : ∀ z s', Qt s s' → Rd Every s'.heap z (.list ((normP ps).map Part.d)) → Q z s') :
   wpAny (model prog w) A (call (.ref 107) [v]) Q E s := by
  have M := G.nm
  refine enter G rfl rfl (by unfold recursionLimit; omega) (BindsTo.of_eq rfl) (locs rfl) ?_
  intro h₁ F
  have hr₁ : Rd Every h₁ v (.list (ps.map Part.d)) := hr.lq (.of_keep F.keep)
  refine wpAny_execs_cons ?_
  refine wpAny_mono (Q := fun f s₁ => ∃ m' v', ∃ l : List Part, f = .next ∧ Fr s.heap s.heap.objs.size s₁.heap m' ∧ m' "parts" = some v' ∧ Rd Every s₁.heap v' (.list (l.map Part.d)) ∧ normP ps = l.take 3 ∧ l.length ≤ 1000 ∧ s₁.gens = s.gens ∧ s₁.os = s.os)
    (E := fun _ _ => False) ?_ ?_ (fun _ _ e => e.elim)
  · refine wpAny_If ?_
    refine wpAny_isTrue_Compare1 ?_
    refine wpAny_Constant_none ?_
    refine comp1 d1 hh (by decide) (by decide) rfl (by decide) rfl ?_
    refine ld F rfl ?_
    refine ⟨_, hr₁, by simpa using hlen, ?_, ?_⟩
    · intro C v d s₂ m₂ E' Q' hdm rv hn hm q hsz hQ
      refine elt_item (i := 1) (f := d1) rfl rfl (by decide) (by decide) (fun _ => rfl) hdm rv hn hm q fun z tk rz => ?_
      exact hQ z _ ⟨fun _ _ e => e, rfl, rfl⟩ (Nat.le_refl _) ((rz.lq (.of_keep q.keep)).weak fun _ => .inl)
    · intro D s₂ q hsz _ rD
      obtain ⟨vs, hl, ra, _⟩ := rD.listOf
      have e : (ps.map Part.d).map d1 = ps.map Part.n := by simp [d1]
      rw [e] at ra
      have F₂ : Fr s.heap s.heap.objs.size s₂.heap _ := ⟨F.ns.keeps q.keep, fun b o e => q.keep b o (F.keep b o e), F.above⟩
      have hr₂ := hr₁.lq (.of_keep q.keep)
      refine PySem.SeqAt.notIn_listAt (fun v => v == .none) hl ?_ ?_
      · intro y hy
        have hy' : y ∈ vs := by simpa using hy
        obtain ⟨i, hi, rfl⟩ := List.mem_iff_getElem.mp hy'
        have hl2 := ra.length
        obtain ⟨z, hz, rz⟩ := ra.get (i := i) (d := (ps.map Part.n)[i]'(by omega)) (List.getElem?_eq_getElem _)
        rw [List.getElem?_eq_getElem hi] at hz
        cases hz
        rw [List.getElem_map] at rz
        unfold Part.n at rz
        cases hp : (ps[i]'(by simp at hl2; omega)).num with
        | none => rw [hp] at rz; rw [rz.isNone]; exact PySem.SeqAt.EqAt.same _
        | some n => rw [hp] at rz; obtain ⟨t, ht⟩ := rz.isInt; rw [ht]; exact PySem.SeqAt.EqAt.int_none n t
      · refine wpAny_truthy_bool ?_
        rw [List.any_toArray, none_any ra, Bool.not_not]
        unfold normP
        cases hall : ps.all (fun p => p.num.isSome) with
        | false =>
          simp only [Bool.false_eq_true, if_false]
          refine wpAny_execs_nil ?_
          exact ⟨_, v, ps, rfl, F₂, rfl, hr₂, rfl, hlen, q.gens, q.os⟩
        | true =>
          simp only [if_true]
          refine wpAny_execs_cons ?_
          refine comp1_assign F₂ dPlain rfl hh (by decide) (by decide) rfl (by decide) rfl rfl rfl ?_
          refine ld F₂ rfl ?_
          refine ⟨_, hr₂, by simpa using hlen, ?_, F₂, ?_⟩
          · intro C v d s₃ m₃ E' Q' hdm rv hnC hm q₃ hsz hQ
            obtain ⟨p, hp, rfl⟩ := List.mem_map.mp hdm
            have hps := List.all_eq_true.mp hall p hp
            obtain ⟨n, hpn⟩ := Option.isSome_iff_exists.mp hps
            have G₃ : Gd w mg mb s₃.heap := (G.keeps F₂.keep).keeps q₃.keep
            have hd1 : dPlain p.d = plainD n := by
              show (match p.n with | .int n => plainD n | _ => p.d) = _
              unfold Part.n; rw [hpn]
            refine Call_ ?_
            refine Name_function_global (env := compEnv _ C _) rfl rfl (loadGlobal_global (env := compEnv _ C _) G₃.T.g M.lplain ?_) (by decide)
            refine callDef (mg := mg) (mb := mb) rfl ?_
            refine args_cons ?_
            refine elt_item (ps := ps) (s₁ := s₂) (i := 1) (f := d1) rfl rfl (by decide) (by decide) (fun _ => rfl) hdm rv hnC hm q₃ fun z tk rz => ?_
            refine args_nil ?_
            have : d1 p.d = .int n := by show p.n = _; unfold Part.n; rw [hpn]
            rw [this] at rz
            obtain ⟨tn, rfl⟩ := rz.isInt
            refine ⟨G₃, ?_⟩
            refine plain_spec (s := { s₃ with toks := tk }) G₃ (by show A.depth + 1 < 600; omega) (by have := hn p hp n hpn; omega) fun z s₄ q₄ rz₄ => ?_
            refine hQ z _ ⟨q₄.keep, q₄.gens, q₄.os⟩ ?_ ((rz₄.weak fun _ => .inr).to hd1.symm)
            obtain ⟨a, rfl⟩ := rz₄.isRefT
            obtain ⟨vs, ⟨oo, e1, _⟩, _, ka⟩ := rz₄.tupleOf
            exact Nat.le_trans ka (Nat.le_of_lt (Heap.lt_size e1))
          · intro D s₃ S₃ F₃ r₃
            refine wpAny_execs_nil ?_
            refine ⟨_, _, ps.map Part.plain, rfl, F₃, rfl, r₃.to ?_, rfl, by simpa using hlen, S₃.gens.trans q.gens, S₃.os.trans q.os⟩
            rw [List.map_map, List.map_map]
            congr 1
            refine List.map_congr_left fun p hp => ?_
            obtain ⟨n, hpn⟩ := Option.isSome_iff_exists.mp (List.all_eq_true.mp hall p hp)
            show (match p.n with | .int n => plainD n | _ => p.d) = (Part.plain p).d
            unfold Part.n Part.plain; rw [hpn]; rfl
  · rintro f s₁ ⟨m', v', l, rfl, F₁, hm1, r₁, hkl, hl1, g₁, o₁⟩
    refine wpAny_execs_cons ?_
    refine wpAny_Return_some ?_
    refine cutL_to (i := 3) (ok := Every) F₁ ?_
    refine ld F₁ hm1 ?_
    refine ⟨_, r₁, by simp; omega, F₁, fun c s₂ q₂ r₂ => ?_⟩
    refine h _ _ ⟨q₂.fr.keep, q₂.gens.trans g₁, q₂.os.trans o₁⟩ (r₂.all.to ?_)
    rw [hkl, List.map_take]
end Mine
end
section
set_option maxRecDepth 100000
set_option maxHeartbeats 400000
namespace Mine
open PySem PySem.Sre

abbrev rcode : Array Nat := #[14, 4, 0, 1, 4294967295, 17, 0, 7, 14, 24, 10, 1, 4294967295, 13, 5, 22, 48, 57, 0, 1, 15, 17, 15, 13, 11, 9, 0, 26624, 2147483648, 0, 0, 0, 0, 0, 0, 15, 2, 0, 17, 1, 1]

def dig (c : Nat) : Bool := 48 ≤ c && c ≤ 57
def sepc (c : Nat) : Bool := c == 43 || c == 45 || c == 46 || c == 95

theorem acc_dig (c : Nat) (seen : Seen) : ∃ seen', accepts rcode 13 c seen = .ok (dig c, seen') := by
  unfold accepts
  show ∃ seen', inSet rcode c 41 15 true seen = .ok (dig c, seen')
  unfold inSet
  show ∃ seen', (if (decide (48 ≤ c) && decide (c ≤ 57)) = true then Except.ok (true, _) else inSet rcode c 40 18 true _) = .ok (dig c, seen')
  cases h : (decide (48 ≤ c) && decide (c ≤ 57)) with
  | true => exact ⟨_, by simp only [if_true]; unfold dig; rw [h]⟩
  | false =>
    simp only [Bool.false_eq_true, if_false]
    unfold inSet dig
    rw [h]
    exact ⟨_, rfl⟩

theorem acc_sep (c : Nat) (seen : Seen) : ∃ seen', accepts rcode 23 c seen = .ok (sepc c, seen') := by
  unfold accepts
  show ∃ seen', inSet rcode c 41 25 true seen = .ok (sepc c, seen')
  unfold inSet
  have key : (decide (c < 256) && (rcode.getD (25 + (1 + c / 32)) 0).testBit (c % 32)) = sepc c := by
    by_cases hc : c < 256
    · have : ∀ c : Fin 256, (decide (c.val < 256) && (rcode.getD (25 + (1 + c.val / 32)) 0).testBit (c.val % 32)) = sepc c.val := by decide +kernel
      exact this ⟨c, hc⟩
    · have : sepc c = false := by
        unfold sepc
        simp; omega
      rw [this]; simp [hc]
  show ∃ seen', (if (decide (c < 256) && (rcode.getD (25 + (1 + c / 32)) 0).testBit (c % 32)) = true then Except.ok (true, _) else inSet rcode c 40 34 true _) = .ok (sepc c, seen')
  rw [key]
  cases h : sepc c with
  | true => exact ⟨_, by simp only [if_true]; rfl⟩
  | false =>
    simp only [Bool.false_eq_true, if_false]
    unfold inSet
    exact ⟨_, rfl⟩

def dcount (text : Array Nat) : Nat → Nat → Nat
  | 0, _ => 0
  | n + 1, p => if dig (text.getD p 0) then dcount text n (p + 1) + 1 else 0

theorem run_dig (text : Array Nat) : ∀ (n p found : Nat) (seen : Seen), ∃ seen', run rcode text 13 n p found seen = .ok (found + dcount text n p, seen')
  | 0, _, found, seen => ⟨seen, rfl⟩
  | n + 1, p, found, seen => by
    obtain ⟨s1, e1⟩ := acc_dig (text.getD p 0) seen
    unfold run dcount
    rw [e1]
    cases h : dig (text.getD p 0) with
    | true =>
      obtain ⟨s2, e2⟩ := run_dig text n (p + 1) (found + 1) s1
      refine ⟨s2, ?_⟩
      show (if true = true then run rcode text 13 n (p + 1) (found + 1) s1 else pure (found, s1)) = _
      rw [if_pos rfl, e2]
      simp only [if_true]
      congr 2; omega
    | false => exact ⟨s1, rfl⟩
end Mine
end
section
set_option maxRecDepth 100000
set_option maxHeartbeats 400000
namespace Mine
open PySem PySem.Sre

abbrev mk (text : Array Nat) (lim start pc pos handed : Nat) (om : Bool) (marks : Array (Option Nat)) (lm li : Int) (frames : List Frame) (weight : Nat) (ans : Option Bool) (seen : Seen) (out : Option Outcome) : M :=
  { code := rcode, text, lim, start, lastStart := lim, wholeText := false, mustAdvance := false, pc, pos, handed, outermost := om, marks, lastmark := lm, lastindex := li, loops := #[], inner := none, frames, weight, answer := ans, seen, outcome := out }

abbrev fS (s : Nat) (om : Bool) : Frame := { wait := .nextStart, pc := 5, pos := s, outermost := om }
abbrev fB (pc s : Nat) (om : Bool) : Frame := { wait := .nextBranch, pc := pc, pos := s, outermost := om, kept := { lastmark := 0, lastindex := -1, whole := false, marks := #[] } }

theorem runFor_succ (n : Nat) (m : M) : M.runFor (n + 1) m = if m.outcome.isSome then m else M.runFor n m.step := rfl
theorem runFor_done (n : Nat) {m : M} (h : m.outcome.isSome = true) : M.runFor n m = m := by
  cases n with
  | zero => rfl
  | succ n => rw [runFor_succ, if_pos h]
theorem runFor_add : ∀ (a b : Nat) (m : M), M.runFor (a + b) m = M.runFor b (M.runFor a m)
  | 0, b, m => by rw [Nat.zero_add]; rfl
  | a + 1, b, m => by
    rw [show a + 1 + b = (a + b) + 1 from by omega, runFor_succ, runFor_succ]
    by_cases h : m.outcome.isSome = true
    · rw [if_pos h, if_pos h, runFor_done b h]
    · rw [if_neg h, if_neg h]
      exact runFor_add a b m.step

section
variable (text : Array Nat) (lim s : Nat) (om : Bool) (marks : Array (Option Nat)) (seen : Seen)
abbrev m0 : M := mk text lim s 5 s s om marks (-1) (-1) [fS s om] 1 none seen none

theorem go1 : ∃ seen', M.runFor 2 (m0 text lim s om marks seen) = mk text lim s 9 s s om (marks.setIfInBounds 0 (some s)) 0 (-1) [fB 8 s om, fS s om] 2 none seen' none := ⟨_, rfl⟩

theorem rep_no (mk1 : Array (Option Nat)) (h : lim ≤ s ∨ dig (text.getD s 0) = false) : ∃ seen' p, M.runFor 1 (mk text lim s 9 s s om mk1 0 (-1) [fB 8 s om, fS s om] 2 none seen none) = mk text lim s 9 p s om mk1 0 (-1) [fB 8 s om, fS s om] 2 (some false) seen' none := by
  show ∃ seen' p, (mk text lim s 9 s s om mk1 0 (-1) [fB 8 s om, fS s om] 2 none seen none).step = _
  by_cases hr : (lim : Int) - (s : Int) < 1
  · refine ⟨seen.add 24, s, ?_⟩
    show (if ((1 : Nat) : Int) > (lim : Int) - (s : Int) then _ else _) = _
    rw [if_pos (by omega)]
    rfl
  · obtain ⟨s1, e1⟩ := run_dig text (min 4294967295 ((lim : Int) - (s : Int)).toNat) s 0 ((seen.add 24).add 13)
    have hd : dig (text.getD s 0) = false := h.resolve_left (by omega)
    have hc : dcount text (min 4294967295 ((lim : Int) - (s : Int)).toNat) s = 0 := by
      cases hm : min 4294967295 ((lim : Int) - (s : Int)).toNat with
      | zero => rfl
      | succ n => unfold dcount; rw [hd]; rfl
    rw [hc] at e1
    refine ⟨s1, s, ?_⟩
    show (if ((1 : Nat) : Int) > (lim : Int) - (s : Int) then _ else (match run rcode text 13 (min 4294967295 ((lim : Int) - (s : Int)).toNat) s 0 ((seen.add 24).add 13) with | .error why => _ | .ok (n, seen) => _)) = _
    rw [if_neg (by omega), e1]
    rfl

theorem rep_yes (mk1 : Array (Option Nat)) (h : s < lim) (hd : dig (text.getD s 0) = true) (hlim : lim ≤ 1000000) : ∃ seen' fr, M.runFor 1 (mk text lim s 9 s s om mk1 0 (-1) [fB 8 s om, fS s om] 2 none seen none) =
    mk text lim s 20 (s + dcount text (lim - s) s) (s + dcount text (lim - s) s) om mk1 0 (-1) [{ wait := .giveBack, pc := 9, pos := s + dcount text (lim - s) s, outermost := om, count := fr, kept := { lastmark := 0, lastindex := -1, whole := false, marks := #[] } }, fB 8 s om, fS s om] 3 none seen' none := by
  show ∃ seen' fr, (mk text lim s 9 s s om mk1 0 (-1) [fB 8 s om, fS s om] 2 none seen none).step = _
  obtain ⟨s1, e1⟩ := run_dig text (min 4294967295 ((lim : Int) - (s : Int)).toNat) s 0 ((seen.add 24).add 13)
  have hm : min 4294967295 ((lim : Int) - (s : Int)).toNat = lim - s := by omega
  rw [hm] at e1
  have hc : 0 + dcount text (lim - s) s = dcount text (lim - s) s := Nat.zero_add _
  rw [hc] at e1
  have hpos : ¬ dcount text (lim - s) s < 1 := by
    cases hls : lim - s with
    | zero => omega
    | succ n => unfold dcount; rw [hd]; simp
  refine ⟨s1, ((dcount text (lim - s) s : Nat) : Int), ?_⟩
  show (if ((1 : Nat) : Int) > (lim : Int) - (s : Int) then _ else (match run rcode text 13 (min 4294967295 ((lim : Int) - (s : Int)).toNat) s 0 ((seen.add 24).add 13) with | .error why => _ | .ok (n, seen) => _)) = _
  rw [hm, if_neg (by omega), e1]
  show (if dcount text (lim - s) s < 1 then _ else _) = _
  rw [if_neg hpos]
  rfl

/-- what a match leaves -/
structure Found (m : M) (s e : Nat) : Prop where
  out : m.outcome = some .matched
  start : m.start = s
  handed : m.handed = e
  mark0 : m.marks.getD 0 none = some s
  mark1 : m.marks.getD 1 none = some e
  last : m.lastmark = 1

/-- behind an alternative: jump, mark, success, and the frames say yes -/
theorem fin_tail (e h : Nat) (mk1 : Array (Option Nat)) (fr : List Frame) (wt : Nat) : ∃ seen' li, M.runFor 2 (mk text lim s 38 e h om mk1 0 (-1) fr wt none seen none) = mk text lim s 40 e e om (mk1.setIfInBounds 1 (some e)) 1 li fr wt (some true) seen' none := by
  cases om <;> exact ⟨_, _, rfl⟩
theorem jump1 (e h : Nat) (mk1 : Array (Option Nat)) (fr : List Frame) (wt : Nat) : ∃ seen', M.runFor 1 (mk text lim s 20 e h om mk1 0 (-1) fr wt none seen none) = mk text lim s 38 e h om mk1 0 (-1) fr wt none seen' none := ⟨_, rfl⟩
theorem jump2 (e h : Nat) (mk1 : Array (Option Nat)) (fr : List Frame) (wt : Nat) : ∃ seen', M.runFor 1 (mk text lim s 35 e h om mk1 0 (-1) fr wt none seen none) = mk text lim s 38 e h om mk1 0 (-1) fr wt none seen' none := ⟨_, rfl⟩

theorem yes_give (p q e : Nat) (li : Int) (fr : Int) (mk1 : Array (Option Nat)) (rest : List Frame) : M.runFor 1 (mk text lim s p q e om mk1 1 li ({ wait := .giveBack, pc := 9, pos := e, outermost := om, count := fr, kept := { lastmark := 0, lastindex := -1, whole := false, marks := #[] } } :: rest) 3 (some true) seen none) =
    mk text lim s 9 e e om mk1 1 li rest 2 (some true) seen none := rfl
theorem yes_branch (p q e a : Nat) (li : Int) (mk1 : Array (Option Nat)) (rest : List Frame) : M.runFor 1 (mk text lim s p q e om mk1 1 li (fB a s om :: rest) 2 (some true) seen none) =
    mk text lim s a s e om mk1 1 li rest 1 (some true) seen none := rfl
theorem yes_start (p q e : Nat) (li : Int) (mk1 : Array (Option Nat)) : M.runFor 2 (mk text lim s p q e om mk1 1 li [fS s om] 1 (some true) seen none) =
    mk text lim s 5 s e om mk1 1 li [] 0 (some true) seen (some .matched) := rfl
theorem no_branch1 (p q h : Nat) (mk1 : Array (Option Nat)) (rest : List Frame) : M.runFor 1 (mk text lim s p q h om mk1 0 (-1) (fB 8 s om :: rest) 2 (some false) seen none) =
    mk text lim s 23 s s om mk1 0 (-1) (fB 22 s om :: rest) 2 none seen none := rfl
theorem no_branch2 (p q h : Nat) (mk1 : Array (Option Nat)) (rest : List Frame) : M.runFor 1 (mk text lim s p q h om mk1 0 (-1) (fB 22 s om :: rest) 2 (some false) seen none) =
    mk text lim s 22 s h om mk1 0 (-1) rest 1 (some false) seen none := rfl
theorem in_no (h : lim ≤ s ∨ sepc (text.getD s 0) = false) (mk1 : Array (Option Nat)) (fr : List Frame) (wt : Nat) : ∃ seen', M.runFor 1 (mk text lim s 23 s s om mk1 0 (-1) fr wt none seen none) = mk text lim s 23 s s om mk1 0 (-1) fr wt (some false) seen' none := by
  show ∃ seen', (mk text lim s 23 s s om mk1 0 (-1) fr wt none seen none).step = _
  by_cases hl : s ≥ lim
  · refine ⟨seen.add 13, ?_⟩
    show (if s ≥ lim then _ else _) = _
    rw [if_pos hl]; rfl
  · obtain ⟨s1, e1⟩ := acc_sep (text.getD s 0) (seen.add 13)
    rw [h.resolve_left (by omega)] at e1
    refine ⟨s1, ?_⟩
    show (if s ≥ lim then _ else (match accepts rcode 23 (text.getD s 0) (seen.add 13) with | .error why => _ | .ok (false, seen) => _ | .ok (true, seen) => _)) = _
    rw [if_neg hl, e1]; rfl
theorem in_yes (hl : s < lim) (h : sepc (text.getD s 0) = true) (mk1 : Array (Option Nat)) (fr : List Frame) (wt : Nat) : ∃ seen', M.runFor 1 (mk text lim s 23 s s om mk1 0 (-1) fr wt none seen none) = mk text lim s 35 (s + 1) s om mk1 0 (-1) fr wt none seen' none := by
  show ∃ seen', (mk text lim s 23 s s om mk1 0 (-1) fr wt none seen none).step = _
  obtain ⟨s1, e1⟩ := acc_sep (text.getD s 0) (seen.add 13)
  rw [h] at e1
  refine ⟨s1, ?_⟩
  show (if s ≥ lim then _ else (match accepts rcode 23 (text.getD s 0) (seen.add 13) with | .error why => _ | .ok (false, seen) => _ | .ok (true, seen) => _)) = _
  rw [if_neg (by omega), e1]; rfl
theorem no_start (p q h : Nat) (hl : s < lim) (mk1 : Array (Option Nat)) : M.runFor 1 (mk text lim s p q h om mk1 0 (-1) [fS s om] 1 (some false) seen none) = m0 text lim (s + 1) false mk1 seen := by
  show (mk text lim s p q h om mk1 0 (-1) [fS s om] 1 (some false) seen none).step = _
  show (if s < lim then _ else _) = _
  rw [if_pos hl]; rfl
theorem no_end (p q h : Nat) (hl : lim ≤ s) (mk1 : Array (Option Nat)) : ∃ m, M.runFor 2 (mk text lim s p q h om mk1 0 (-1) [fS s om] 1 (some false) seen none) = m ∧ m.outcome = some .failed := by
  refine ⟨_, rfl, ?_⟩
  rw [show (2 : Nat) = 1 + 1 from rfl, runFor_add]
  have : M.runFor 1 (mk text lim s p q h om mk1 0 (-1) [fS s om] 1 (some false) seen none) = mk text lim s 5 s h om mk1 0 (-1) [] 0 (some false) seen none := by
    show (mk text lim s p q h om mk1 0 (-1) [fS s om] 1 (some false) seen none).step = _
    show (if s < lim then _ else _) = _
    rw [if_neg (by omega)]; rfl
  rw [this]; rfl
end
end Mine
end
section
set_option maxRecDepth 100000
set_option maxHeartbeats 400000
namespace Mine
open PySem PySem.Sre
section
variable (text : Array Nat) (lim s : Nat) (om : Bool) (marks : Array (Option Nat)) (seen : Seen)

theorem marks_found {mk1 : Array (Option Nat)} (h2 : marks.size = 2) (e : Nat) (hmk : mk1 = marks.setIfInBounds 0 (some s)) :
    (mk1.setIfInBounds 1 (some e)).getD 0 none = some s ∧ (mk1.setIfInBounds 1 (some e)).getD 1 none = some e := by
  subst hmk
  constructor <;> simp [Array.getD_eq_getD_getElem?, Array.getElem?_setIfInBounds, h2]

theorem att_dig (h2 : marks.size = 2) (hl : s < lim) (hd : dig (text.getD s 0) = true) (hlim : lim ≤ 1000000) : ∃ k, k ≤ 12 ∧ Found (M.runFor k (m0 text lim s om marks seen)) s (s + dcount text (lim - s) s) := by
  refine ⟨10, by decide, ?_⟩
  obtain ⟨s1, e1⟩ := go1 text lim s om marks seen
  obtain ⟨s2, fr, e2⟩ := rep_yes text lim s om s1 (marks.setIfInBounds 0 (some s)) hl hd hlim
  obtain ⟨s3, e3⟩ := jump1 text lim s om s2 (s + dcount text (lim - s) s) (s + dcount text (lim - s) s) (marks.setIfInBounds 0 (some s)) [{ wait := .giveBack, pc := 9, pos := s + dcount text (lim - s) s, outermost := om, count := fr, kept := { lastmark := 0, lastindex := -1, whole := false, marks := #[] } }, fB 8 s om, fS s om] 3
  obtain ⟨s4, li, e4⟩ := fin_tail text lim s om s3 (s + dcount text (lim - s) s) (s + dcount text (lim - s) s) (marks.setIfInBounds 0 (some s)) [{ wait := .giveBack, pc := 9, pos := s + dcount text (lim - s) s, outermost := om, count := fr, kept := { lastmark := 0, lastindex := -1, whole := false, marks := #[] } }, fB 8 s om, fS s om] 3
  have hm := marks_found s marks h2 (s + dcount text (lim - s) s) rfl
  rw [show (10 : Nat) = 2 + (1 + (1 + (2 + (1 + (1 + 2))))) from rfl, runFor_add, e1, runFor_add, e2, runFor_add, e3, runFor_add, e4, runFor_add, yes_give, runFor_add, yes_branch, yes_start]
  exact ⟨rfl, rfl, rfl, hm.1, hm.2, rfl⟩

theorem att_sep (h2 : marks.size = 2) (hl : s < lim) (hd : dig (text.getD s 0) = false) (hs : sepc (text.getD s 0) = true) : ∃ k, k ≤ 12 ∧ Found (M.runFor k (m0 text lim s om marks seen)) s (s + 1) := by
  refine ⟨11, by decide, ?_⟩
  obtain ⟨s1, e1⟩ := go1 text lim s om marks seen
  obtain ⟨s2, p, e2⟩ := rep_no text lim s om s1 (marks.setIfInBounds 0 (some s)) (.inr hd)
  obtain ⟨s3, e3⟩ := in_yes text lim s om s2 hl hs (marks.setIfInBounds 0 (some s)) [fB 22 s om, fS s om] 2
  obtain ⟨s4, e4⟩ := jump2 text lim s om s3 (s + 1) s (marks.setIfInBounds 0 (some s)) [fB 22 s om, fS s om] 2
  obtain ⟨s5, li, e5⟩ := fin_tail text lim s om s4 (s + 1) s (marks.setIfInBounds 0 (some s)) [fB 22 s om, fS s om] 2
  have hm := marks_found s marks h2 (s + 1) rfl
  rw [show (11 : Nat) = 2 + (1 + (1 + (1 + (1 + (2 + (1 + 2)))))) from rfl, runFor_add, e1, runFor_add, e2, runFor_add, no_branch1, runFor_add, e3, runFor_add, e4, runFor_add, e5, runFor_add, yes_branch, yes_start]
  exact ⟨rfl, rfl, rfl, hm.1, hm.2, rfl⟩

theorem att_no (h : lim ≤ s ∨ (dig (text.getD s 0) = false ∧ sepc (text.getD s 0) = false)) : ∃ p q hh mk1 s', M.runFor 6 (m0 text lim s om marks seen) = mk text lim s p q hh om mk1 0 (-1) [fS s om] 1 (some false) s' none ∧ mk1.size = marks.size := by
  obtain ⟨s1, e1⟩ := go1 text lim s om marks seen
  obtain ⟨s2, p, e2⟩ := rep_no text lim s om s1 (marks.setIfInBounds 0 (some s)) (h.imp id And.left)
  obtain ⟨s3, e3⟩ := in_no text lim s om s2 (h.imp id And.right) (marks.setIfInBounds 0 (some s)) [fB 22 s om, fS s om] 2
  refine ⟨22, s, s, marks.setIfInBounds 0 (some s), s3, ?_, by simp⟩
  rw [show (6 : Nat) = 2 + (1 + (1 + (1 + 1))) from rfl, runFor_add, e1, runFor_add, e2, runFor_add, no_branch1, runFor_add, e3, no_branch2]

def findTok : Nat → Nat → Option (Nat × Nat)
  | 0, _ => none
  | n + 1, p => if p < lim then (if dig (text.getD p 0) then some (p, p + dcount text (lim - p) p) else if sepc (text.getD p 0) then some (p, p + 1) else findTok n (p + 1)) else none

theorem search_from (hlim : lim ≤ 1000000) : ∀ (n p : Nat) (om : Bool) (marks : Array (Option Nat)) (seen : Seen), marks.size = 2 → lim + 1 - p ≤ n → ∃ k, k ≤ 12 * (n + 1) ∧
    (match findTok text lim n p with
      | some (a, b) => Found (M.runFor k (m0 text lim p om marks seen)) a b
      | none => (M.runFor k (m0 text lim p om marks seen)).outcome = some .failed)
  | 0, p, om, marks, seen, h2, hn => by
    obtain ⟨_, _, _, mk1, s', e, _⟩ := att_no text lim p om marks seen (.inl (by omega))
    refine ⟨8, by decide, ?_⟩
    unfold findTok
    rw [show (8 : Nat) = 6 + 2 from rfl, runFor_add, e]
    obtain ⟨m, e2, h⟩ := no_end text lim p om s' _ _ _ (by omega) mk1
    rw [e2]; exact h
  | n + 1, p, om, marks, seen, h2, hn => by
    unfold findTok
    by_cases hl : p < lim
    · rw [if_pos hl]
      cases hd : dig (text.getD p 0) with
      | true =>
        obtain ⟨k, hk, f⟩ := att_dig text lim p om marks seen h2 hl hd hlim
        exact ⟨k, by omega, f⟩
      | false =>
        cases hs : sepc (text.getD p 0) with
        | true =>
          obtain ⟨k, hk, f⟩ := att_sep text lim p om marks seen h2 hl hd hs
          exact ⟨k, by omega, f⟩
        | false =>
          obtain ⟨p1, q1, hh, mk1, s', e, hz⟩ := att_no text lim p om marks seen (.inr ⟨hd, hs⟩)
          obtain ⟨k, hk, f⟩ := search_from hlim n (p + 1) false mk1 s' (hz.trans h2) (by omega)
          refine ⟨6 + (1 + k), by omega, ?_⟩
          simp only [Bool.false_eq_true, if_false]
          rw [runFor_add, e, runFor_add, no_start text lim p om s' p1 q1 hh hl mk1]
          exact f
    · rw [if_neg hl]
      obtain ⟨_, _, _, mk1, s', e, _⟩ := att_no text lim p om marks seen (.inl (by omega))
      refine ⟨8, by omega, ?_⟩
      rw [show (8 : Nat) = 6 + 2 from rfl, runFor_add, e]
      obtain ⟨m, e2, h⟩ := no_end text lim p om s' _ _ _ (by omega) mk1
      rw [e2]; exact h

theorem forSearch_found (hlim : lim ≤ 1000000) (p : Nat) : ∃ k, k ≤ 12 * (lim + 2) ∧
    (match findTok text lim (lim + 1) p with
      | some (a, b) => Found (M.runFor k (forSearch rcode text 1 p lim false)) a b
      | none => (M.runFor k (forSearch rcode text 1 p lim false)).outcome = some .failed) := by
  by_cases h : (decide (p > lim) || decide (lim - p < 1)) = true
  · have hl : ¬ p < lim := by simp at h; omega
    refine ⟨1, by omega, ?_⟩
    unfold findTok
    rw [if_neg hl]
    have : forSearch rcode text 1 p lim false = (if (decide (p > lim) || decide (lim - p < 1)) = true then _ else _) := rfl
    rw [this, if_pos h]
    rfl
  · have e : forSearch rcode text 1 p lim false = (if (decide (p > lim) || decide (lim - p < 1)) = true then _ else m0 text lim p true (Array.replicate 2 none) (({} : Seen).add 14)) := rfl
    rw [if_neg h] at e
    obtain ⟨k, hk, f⟩ := search_from text lim hlim (lim + 1) p true (Array.replicate 2 none) (({} : Seen).add 14) (by simp) (by omega)
    exact ⟨k, by omega, by rw [e]; exact f⟩
end
end Mine
end
section
open PySem PySem.W PyProof.Rows PySem.Calls PySem.Builtin PySem.Builtin.Re
set_option maxRecDepth 100000
set_option maxHeartbeats 400000
namespace Mine
section
variable {M : Model} {A : Around} {E : Value → Shared → Prop} {s : Shared}
theorem reDrive_wp {Q : Sre.M → Shared → Prop} : ∀ (turns : Nat) (m : Sre.M) (k : Nat), (Sre.M.runFor k m).outcome.isSome = true → k ≤ 4 * turns → 0 < turns → Q (Sre.M.runFor k m) s → wpAny M A (reDrive turns m) Q E s
  | 0, _, _, _, _, h0, _ => absurd h0 (Nat.lt_irrefl _)
  | turns + 1, m, k, ho, hk, _, hq => by
    show wpAny M A (if (Sre.M.runFor 4 m).outcome.isSome then pure (Sre.M.runFor 4 m) else do rule "sre.turn"; reDrive turns (Sre.M.runFor 4 m)) Q E s
    by_cases h : (Sre.M.runFor 4 m).outcome.isSome = true
    · rw [if_pos h]
      refine wpAny_pure ?_
      have : Sre.M.runFor 4 m = Sre.M.runFor k m := by
        by_cases hle : k ≤ 4
        · rw [show 4 = k + (4 - k) from by omega, runFor_add, runFor_done _ ho]
        · rw [show k = 4 + (k - 4) from by omega, runFor_add, runFor_done _ h]
      rw [this]; exact hq
    · rw [if_neg h]
      refine wpAny_bind (wpAny_rule ?_)
      have hlt : 4 < k := by
        refine Nat.lt_of_not_le fun hle => h ?_
        rw [show 4 = k + (4 - k) from by omega, runFor_add, runFor_done _ ho]; exact ho
      have e : Sre.M.runFor (k - 4) (Sre.M.runFor 4 m) = Sre.M.runFor k m := by rw [← runFor_add]; congr 1; omega
      exact reDrive_wp turns _ (k - 4) (by rw [e]; exact ho) (by omega) (by omega) (by rw [e]; exact hq)

theorem reRun_wp {Q : Option Sre.M → Shared → Prop} {m : Sre.M} (k : Nat) (hk : k ≤ 100000000) (h : match (Sre.M.runFor k m).outcome with | some .matched => Q (some (Sre.M.runFor k m)) s | some .failed => Q none s | _ => False) : wpAny M A (reRunToEnd m) Q E s := by
  unfold reRunToEnd
  have ho : (Sre.M.runFor k m).outcome.isSome = true := by
    cases ho : (Sre.M.runFor k m).outcome with
    | none => rw [ho] at h; exact h.elim
    | some _ => rfl
  refine wpAny_bind (reDrive_wp (2 ^ 64) m k ho (Nat.le_trans hk (by decide)) (by decide) ?_)
  generalize Sre.M.runFor k m = m' at h
  refine wpAny_bind ?_
  refine wpAny_forIn_list _ (fun _ _ s' => s' = s) _ ?_ ?_ _ _ rfl
  · rintro x rest b s' rfl
    split
    · exact wpAny_bind (wpAny_rule (wpAny_pure rfl))
    · exact wpAny_pure rfl
  · rintro b s' rfl
    cases ho : m'.outcome with
    | none => rw [ho] at h; exact h.elim
    | some o =>
      rw [ho] at h
      cases o with
      | matched => exact wpAny_pure h
      | failed => exact wpAny_pure h
      | stuck => exact h.elim
end


/-! ## the split as a list of pieces -/
section
variable (text : Array Nat)
def sp : Nat → Nat → List (Array Nat)
  | 0, st => [text.extract st text.size]
  | n + 1, st => match findTok text text.size (text.size + 1) st with
    | none => [text.extract st text.size]
    | some (a, b) => text.extract st a :: text.extract a b :: sp n b

theorem sp_length : ∀ (n st : Nat), (sp text n st).length ≤ 2 * n + 1
  | 0, _ => Nat.le_refl _
  | n + 1, st => by
    unfold sp
    split
    · simp
    · rename_i a b _
      have := sp_length n b
      simp only [List.length_cons]; omega
theorem dcount_le : ∀ (n p : Nat), dcount text n p ≤ n
  | 0, _ => Nat.le_refl _
  | n + 1, p => by unfold dcount; split; have := dcount_le n (p + 1); omega; omega
theorem findTok_bounds : ∀ (n p : Nat) {lim a b : Nat}, findTok text lim n p = some (a, b) → p ≤ a ∧ a < b ∧ b ≤ lim
  | 0, _, _, _, _, h => by cases h
  | n + 1, p, lim, a, b, h => by
    unfold findTok at h
    by_cases hl : p < lim
    · rw [if_pos hl] at h
      cases hd : dig (text.getD p 0) with
      | true =>
        rw [hd] at h
        simp only [if_true, Option.some.injEq, Prod.mk.injEq] at h
        obtain ⟨rfl, rfl⟩ := h
        have h1 := dcount_le text (lim - p) p
        have h2 : 1 ≤ dcount text (lim - p) p := by
          cases hls : lim - p with
          | zero => omega
          | succ k => unfold dcount; rw [hd]; simp
        omega
      | false =>
        rw [hd] at h
        cases hs : sepc (text.getD p 0) with
        | true =>
          rw [hs] at h
          simp only [Bool.false_eq_true, if_false, if_true, Option.some.injEq, Prod.mk.injEq] at h
          omega
        | false =>
          rw [hs] at h
          simp only [Bool.false_eq_true, if_false] at h
          have := findTok_bounds n (p + 1) h
          omega
    · rw [if_neg hl] at h; cases h
end

theorem slice_wp {M : Model} {A : Around} {E : Value → Shared → Prop} {s : Shared} {text : Array Nat} {b e : Nat} {Q : Value → Shared → Prop} (hz : text.size ≤ 1000000) (h : Q (.str ⟨text.extract b e⟩ s.toks) { s with toks := s.toks + 1 }) :
    wpAny M A (reSlice text 0 b e) Q E s := by
  unfold reSlice
  show wpAny M A (mkStr ⟨text.extract b e⟩) Q E s
  unfold mkStr
  have : ¬ (Str.length ⟨text.extract b e⟩ > sizeLine) := by
    have h1 : (text.extract b e).size ≤ text.size := by simp; omega
    have h2 : 1000000 ≤ sizeLine := by unfold sizeLine; decide
    show ¬ ((text.extract b e).size > sizeLine)
    omega
  rw [if_neg this]
  exact wpAny_bind (wpAny_fresh (wpAny_pure h))

abbrev o36 : Obj := { cls := .type "re.Pattern", data := .fields #[.str "([0-9]+|[._+-])" 285, .int 32 329, .int 1 0, .none, .none, .ref 35, .int 0 0] }
abbrev rints : Array Value := rcode.map fun (n : Nat) => Value.int (n : Int) 0

abbrev tgt (v : Str) (t : Tok) : ReTarget := { pattern := .ref 36, string := .str v t, code := rcode, text := v.cps, kind := 0, groups := 1, pos := 0, lim := v.cps.size }
theorem target_wp {M : Model} {A : Around} {s : Shared} {E : Value → Shared → Prop} {v : Str} {t : Tok} {n35 : Nat} {d35 : Option Addr} {sl35 : Array (Option Value)} {Q : ReTarget → Shared → Prop}
    (h36 : s.heap.get? 36 = some o36) (h35 : s.heap.get? 35 = some ⟨.type "tuple", d35, .seq rints n35, sl35⟩) (h : Q (tgt v t) s) : wpAny M A (reWholeTarget (.ref 36) (.str v t)) Q E s := by
  unfold reWholeTarget
  refine wpAny_bind (wpAny_fieldsOf h36 rfl ?_)
  refine wpAny_bind (wpAny_of_eq (show reTextOf (.str v t) = pure (v.cps, 0) from rfl) ?_)
  show wpAny M A (reRawItems (.ref 35) >>= _) Q E s
  unfold reRawItems
  refine wpAny_bind (wpAny_bind (wpAny_seqItems h35 rfl (wpAny_pure ?_)))
  refine wpAny_pure ?_
  have e : ((((some rints).getD #[]).map reRawOf).map fun i => i.toNat) = rcode := by decide +kernel
  show Q { pattern := .ref 36, string := .str v t, code := (((some rints).getD #[]).map reRawOf).map fun i => i.toNat, text := v.cps, kind := 0, groups := 1, pos := 0, lim := v.cps.size } s
  rw [e]
  exact h
theorem split_wp {prog : Program} {w : World} {A : Around} {s : Shared} {E : Value → Shared → Prop} {v : Str} {t : Tok} {n35 : Nat} {d35 : Option Addr} {sl35 : Array (Option Value)} {Q : Value → Shared → Prop}
    (h36 : s.heap.get? 36 = some o36) (h35 : s.heap.get? 35 = some ⟨.type "tuple", d35, .seq rints n35, sl35⟩) (hv : v.length ≤ 100000)
    (h : ∀ (l : List (Str × Tok)) tk, l.map (·.1) = (sp v.cps (2 * v.length + 3) 0).map Str.mk → Q (.ref s.heap.objs.size) { s with heap := s.heap.push { cls := .type "list", data := .seq (strValues l).toArray }, toks := tk }) :
    wpAny (model prog w) A (Builtin.«re.Pattern.split» ⟨[.ref 36, .str v t], []⟩) (fun fin s' => ∃ v, fin = .done (.ret v) ∧ Q v s') E s := by
  unfold Builtin.«re.Pattern.split»
  refine wpAny_bind (wpAny_of_eq (show reNamed "re.Pattern.split" "split" ["string", "maxsplit"] 1 [.str v t] [] = pure [some (.str v t), none] from rfl) ?_)
  dsimp only
  refine wpAny_bind (wpAny_pure ?_)
  refine wpAny_bind (target_wp h36 h35 ?_)
  show wpAny (model prog w) A (forIn (List.range (2 * v.cps.size + 3)) _ _ >>= _) _ E s
  refine wpAny_bind ?_
  refine wpAny_forIn_list _ (fun rest st s' => (∃ tk, s' = { s with toks := tk }) ∧ ∃ l : List (Str × Tok), st.1 = (strValues l).toArray ∧
      (if st.2.2.2.2.2 = true then l.map (·.1) ++ [⟨v.cps.extract st.2.2.1 v.cps.size⟩] = (sp v.cps (2 * v.length + 3) 0).map Str.mk
        else st.2.1 = st.2.2.1 ∧ st.2.2.2.1 = false ∧ st.2.1 ≤ v.cps.size ∧ v.cps.size - st.2.1 < rest.length ∧ l.map (·.1) ++ (sp v.cps rest.length st.2.1).map Str.mk = (sp v.cps (2 * v.length + 3) 0).map Str.mk)) _ ?turn ?fin _ _ ?init
  case init =>
    refine ⟨⟨s.toks, rfl⟩, [], rfl, ?_⟩
    simp only [Bool.false_eq_true, if_false, List.map_nil, List.nil_append, List.length_range]
    exact ⟨trivial, trivial, Nat.zero_le _, by omega, rfl⟩
  case turn =>
    rintro x rest ⟨out, st, last, must, n, over⟩ s' ⟨⟨tk, rfl⟩, l, hl, hc⟩
    dsimp only at hl hc ⊢
    cases over with
    | true =>
      simp only [Bool.not_true, Bool.false_eq_true, if_false]
      exact wpAny_pure ⟨⟨tk, rfl⟩, l, hl, hc⟩
    | false =>
      simp only [Bool.false_eq_true, if_false] at hc
      obtain ⟨rfl, rfl, hle, hlen, he⟩ := hc
      simp only [Bool.not_false, if_true]
      obtain ⟨k, hk, hf⟩ := forSearch_found v.cps v.cps.size (Nat.le_trans hv (by decide)) st
      have hk' : k ≤ 100000000 := by
        have : v.cps.size ≤ 100000 := hv
        omega
      have esp : sp v.cps (x :: rest).length st = match findTok v.cps v.cps.size (v.cps.size + 1) st with
          | none => [v.cps.extract st v.cps.size]
          | some (a, b) => v.cps.extract st a :: v.cps.extract a b :: sp v.cps rest.length b := rfl
      refine wpAny_bind (m := reNextFound (tgt v t) st false) ?_
      unfold reNextFound
      refine reRun_wp k hk' ?_
      cases hft : findTok v.cps v.cps.size (v.cps.size + 1) st with
      | none =>
        rw [hft] at hf esp
        show match (Sre.M.runFor k (Sre.forSearch rcode v.cps 1 st v.cps.size false)).outcome with | some .matched => _ | some .failed => _ | _ => False
        rw [hf]
        refine wpAny_pure ⟨⟨tk, rfl⟩, l, hl, ?_⟩
        rw [esp] at he
        simpa using he
      | some ab =>
        obtain ⟨a, b⟩ := ab
        rw [hft] at hf esp
        obtain ⟨hb1, hb2, hb3⟩ := findTok_bounds v.cps _ _ hft
        show match (Sre.M.runFor k (Sre.forSearch rcode v.cps 1 st v.cps.size false)).outcome with | some .matched => _ | some .failed => _ | _ => False
        rw [hf.out]
        refine wpAny_bind (slice_wp (Nat.le_trans hv (by decide)) ?_)
        show wpAny (model prog w) A (forIn (List.range 1) _ _ >>= _) _ E _
        rw [show List.range 1 = [0] from rfl]
        simp only [List.forIn_cons, List.forIn_nil]
        refine wpAny_bind (wpAny_bind (wpAny_bind ?_))
        show wpAny (model prog w) A (reMachineGroup (tgt v t) (Sre.M.runFor k (Sre.forSearch rcode v.cps 1 st v.cps.size false)) 1 (pure .none)) _ E _
        unfold reMachineGroup
        rw [if_neg (by rw [hf.last]; decide)]
        show wpAny (model prog w) A (match (Sre.M.runFor k (Sre.forSearch rcode v.cps 1 st v.cps.size false)).marks.getD 0 none, (Sre.M.runFor k (Sre.forSearch rcode v.cps 1 st v.cps.size false)).marks.getD 1 none with | some b, some e => if e < b then reWrongSpan else reSlice v.cps 0 b e | _, _ => pure .none) _ E _
        rw [hf.mark0, hf.mark1]
        dsimp only
        rw [if_neg (by omega)]
        refine slice_wp (Nat.le_trans hv (by decide)) ?_
        refine wpAny_pure ?_
        refine wpAny_pure ?_
        refine wpAny_pure ?_
        refine ⟨⟨_, rfl⟩, l ++ [(⟨v.cps.extract st (Sre.M.runFor k (Sre.forSearch rcode v.cps 1 st v.cps.size false)).start⟩, tk), (⟨v.cps.extract a b⟩, tk + 1)], ?_, ?_⟩
        · rw [hl]; simp [strValues]
        · rw [hf.handed, hf.start]
          simp only [Bool.false_eq_true, if_false]
          rw [esp] at he
          refine ⟨trivial, ?_, hb3, ?_, ?_⟩
          · simp; omega
          · simp at hlen; omega
          · simpa using he
  case fin =>
    rintro ⟨out, st, last, must, n, over⟩ s' ⟨⟨tk, rfl⟩, l, hl, hc⟩
    dsimp only at hl hc ⊢
    cases over with
    | false => simp at hc
    | true =>
      simp only [if_true] at hc
      simp only [Bool.not_true, Bool.false_eq_true, if_false]
      refine wpAny_bind (slice_wp (Nat.le_trans hv (by decide)) ?_)
      have e1 : (out.push (.str ⟨v.cps.extract last v.cps.size⟩ tk)).toList = strValues (l ++ [(⟨v.cps.extract last v.cps.size⟩, tk)]) := by rw [hl]; simp [strValues]
      have hlen : (strValues (l ++ [(⟨v.cps.extract last v.cps.size⟩, tk)])).length ≤ sizeLine := by
        have h1 := congrArg List.length hc
        have h2 := sp_length v.cps (2 * v.length + 3) 0
        have h3 : 1000000 ≤ sizeLine := by unfold sizeLine; decide
        simp only [List.length_append, List.length_map, List.length_cons, List.length_nil, strValues] at h1 ⊢
        omega
      rw [e1]
      refine wpAny_bind (wpAny_newList (wpAny_pure ⟨_, rfl, h _ _ ?_⟩) hlen)
      simpa using hc
end Mine
end
section
open PySem PySem.W PyProof.Rows PySem.Calls PySem.Builtin PySem.Builtin.Re
set_option maxRecDepth 100000
set_option maxHeartbeats 400000
namespace Mine
theorem plainAttrs_re : PlainAttrs "re.Pattern" :=
  ⟨⟨"object.__getattribute__", by rw [typeLookup_type, builtinLookup_eq_fast]; kernel_rfl, by decide +kernel⟩, by rw [typeLookup_type, builtinLookup_eq_fast]; kernel_rfl⟩
theorem slot_re_split : Slot "re.Pattern" "split" "re.Pattern.split" :=
  .of (owner := "re.Pattern") (n := "split") (by rw [typeLookup_type, builtinLookup_eq_fast]; kernel_rfl) (by decide +kernel) (by decide +kernel) (by decide +kernel)
    (by first | exact .inl (by decide +kernel) | exact .inr (by decide +kernel)) (by rw [isSubtype_type]; kernel_rfl)
theorem type_re_split : typeOf (.builtin "re.Pattern.split") = pure (.type "method_descriptor") := by show builtinType _ = _; rw [builtinType_eq_fast]; kernel_rfl
theorem entry_re_split : entryFor table "re.Pattern.split" = some Builtin.«re.Pattern.split» := entryFor_of_tree (by kernel_rfl)
theorem args_re_split (a b : Value) : argsOk "re.Pattern.split" ⟨[a, b], []⟩ := by unfold argsOk; kernel_rfl

section
variable {prog : Program} {w : World} {A : Around} {s : Shared} {mg mb : Str → Option Value} {E : Value → Shared → Prop}
theorem re_meth {pl : Sem Bool} {Q : Value × List Value → Shared → Prop} (G : Gd w mg mb s.heap) (h : Q (.builtin "re.Pattern.split", [.ref 36]) s) : wpAny (model prog w) A (getMethod (.ref 36) "split" pl) Q E s := by
  have h36 : s.heap.get? 36 = some o36 := G.K _ _ (by kernel_rfl!)
  exact getMethod_builtin ⟨_, h36, rfl⟩ plainAttrs_re slot_re_split type_re_split (fun a e => by cases e; exact ⟨_, h36, rfl⟩) h
theorem re_split {v : Str} {t : Tok} {Q : Value → Shared → Prop} (G : Gd w mg mb s.heap) (hv : v.length ≤ 100000)
    (h : ∀ (l : List (Str × Tok)) tk, l.map (·.1) = (sp v.cps (2 * v.length + 3) 0).map Str.mk → Q (.ref s.heap.objs.size) { s with heap := s.heap.push { cls := .type "list", data := .seq (strValues l).toArray }, toks := tk }) :
    wpAny (model prog w) A (call (.builtin "re.Pattern.split") [.ref 36, .str v t]) Q E s := by
  have h36 : s.heap.get? 36 = some o36 := G.K _ _ (by kernel_rfl!)
  have h35 : s.heap.get? 35 = some ⟨.type "tuple", none, .seq rints 0, #[]⟩ := G.K _ _ (by kernel_rfl!)
  exact wpAny_call_entry slot_re_split ⟨_, h36, rfl⟩ entry_re_split (split_wp h36 h35 hv h) (args_re_split _ _)
end
end Mine
end
section
open PySem PySem.W PyProof.Rows PySem.Calls
set_option maxRecDepth 100000
set_option maxHeartbeats 400000
namespace Mine

/-- all objects of a heap that are not in another one, and not at two addresses -/
def others (hb h : Heap) (L L' : Addr) : List (Addr × Obj) :=
  (List.range h.objs.size).filterMap fun b => if b = L ∨ b = L' ∨ (hb.get? b).isSome then none else (h.get? b).map (b, ·)
theorem mem_others {hb h : Heap} {L L' : Addr} {p : Addr × Obj} : p ∈ others hb h L L' ↔ p.1 ≠ L ∧ p.1 ≠ L' ∧ hb.get? p.1 = none ∧ h.get? p.1 = some p.2 := by
  unfold others
  rw [List.mem_filterMap]
  constructor
  · rintro ⟨b, _, hb'⟩
    split at hb'
    · cases hb'
    · rename_i hc
      obtain ⟨o, ho, rfl⟩ := Option.map_eq_some_iff.mp hb'
      simp only [not_or, Bool.not_eq_true, Option.isSome_eq_false_iff, Option.isNone_iff_eq_none] at hc
      exact ⟨hc.1, hc.2.1, hc.2.2, ho⟩
  · rintro ⟨h1, h2, h3, h4⟩
    refine ⟨p.1, List.mem_range.mpr (Heap.lt_size h4), ?_⟩
    rw [if_neg (by simp [h1, h2, h3]), h4]; rfl

/-- the law's frame, its slots aside -/
structure LawFr (hb h : Heap) (L L' : Addr) (oL : Obj) : Prop where
  at_ : ∃ sl, h.get? L = some { oL with slots := sl }
  out : hb.get? L = none
  ne : L ≠ L'
structure EnvL (envL : Env) (L : Addr) (oL : Obj) : Prop where
  fr : envL.frame = some L
  kind : envL.scope.kind ≠ .module
  dict : ∃ es ep, oL.data = .dict es ep

section
variable {prog : Program} {w : World} {A₀ : Around} {s : Shared} {mg mb : Str → Option Value} {hb : Heap} {L L' a : Addr} {oL : Obj} {envL : Env} {name : Str} {scope : Scope} {cd : Value}

theorem tryVE {body orelse : List Stmt} {b₀ : Stmt} {suite : List Stmt} {np hpos pos : Pos} {Q : Flow → Shared → Prop}
    (hfr : A₀.frames = some [envL]) (eL : EnvL envL L oL) (G : Gd w mg mb hb)
    (hbody : wpAny (model prog w) (A₀.deeper (envOf name scope L' a cd)) (execs body (envOf name scope L' a cd))
      (fun f s₁ => match f with | .next => wpAny (model prog w) (A₀.deeper (envOf name scope L' a cd)) (execs orelse (envOf name scope L' a cd)) Q (fun _ _ => False) s₁ | f => Q f s₁)
      (fun e s₁ => ∃ ea h m, e = .ref ea ∧ Heap.NewExc h s₁.heap ea "ValueError" ∧ Fr hb L' h m ∧ LawFr hb h L L' oL ∧
        ∀ h', Fr hb L' h' m → (∀ b o, b ≠ L → b ≠ L' → h.get? b = some o → h'.get? b = some o) → LawFr hb h' L L' oL →
          wpAny (model prog w) ((A₀.deeper (envOf name scope L' a cd)).mark (some (.ref ea))) (execs (b₀ :: suite) (envOf name scope L' a cd)) Q (fun _ _ => False) { s₁ with heap := h' }) s)
    (hk : scope.kind = .function := by rfl) (hxk : (envOf name scope L' a cd).kindOf "ValueError" = some .globalImplicit := by rfl) :
    wpAny (model prog w) (A₀.deeper (envOf name scope L' a cd)) (exec (.Try body [.ExceptHandler (some (.Name "ValueError" np)) none (b₀ :: suite) hpos] orelse [] pos) (envOf name scope L' a cd)) Q (fun _ _ => False) s := by
  have M := G.nm
  refine wpAny_Try_except (wpAny_mono hbody (fun _ _ x => x) fun e s₁ he => ?_)
  obtain ⟨ea, h, m, rfl, hx, F, ⟨⟨sl, hL⟩, hbL, hne⟩, hk'⟩ := he
  have N : News hb L' h (others hb h L L' ++ [(L, { oL with slots := sl })]) := fun p hp => by
    rcases List.mem_append.mp hp with hp | hp
    · obtain ⟨_, h2, h3, h4⟩ := mem_others.mp hp
      exact ⟨h4, h2, h3⟩
    · rw [List.mem_singleton.mp hp]
      exact ⟨hL, hne, hbL⟩
  have Fs : TI.Frs [envL] [(L, { oL with slots := sl })] := ⟨eL.kind, eL.fr, eL.dict, trivial⟩
  refine TLg.noted_newA (new := others hb h L L') hfr Fs hx F N (fun p hp hm => ?_) (fun h' frs' SU Fs' H => ?_) hk
  · obtain ⟨h1, h2, _, _⟩ := mem_others.mp hp
    rcases List.mem_cons.mp hm with q | hm
    · exact h2 q
    · exact h1 (List.mem_singleton.mp hm)
  · obtain ⟨sl', rfl⟩ := TLg.one_up SU
    refine H.land fun h'' H' => ?_
    refine wpAny_handleBy_builtin (X := "ValueError") (T := "ValueError") (b := true) (isSubtype_of_subB (by decide +kernel)) (isSubtype_of_subB (by decide +kernel)) (isSubtype_of_subB (by decide +kernel))
      (wpAny_passesOwnAt PassesOwnAt.never (ld_builtin_at H'.held.fr G.T.g M.gve G.T.b M.bve ⟨rfl, H'.isA, ?_⟩ hk hxk (by decide)))
    rw [if_pos rfl]
    refine H'.lands fun h₃ F₃ N₃ => wpAny_passesOwnAt PassesOwnAt.never (hk' h₃ F₃ (fun b o h1 h2 e => ?_) ⟨⟨sl', ?_⟩, hbL, hne⟩)
    · cases hq : hb.get? b with
      | some o' =>
        have := F.keep b o' hq
        rw [e] at this; cases this
        exact F₃.keep b o hq
      | none => exact (N₃ (b, o) (List.mem_append_left _ (mem_others.mpr ⟨h1, h2, hq, e⟩))).1
    · exact (N₃ _ (List.mem_append_right _ (List.mem_singleton.mpr rfl))).1
end
end Mine
end
section
open PySem PySem.W PyProof.Rows PySem.Calls
set_option maxRecDepth 100000
set_option maxHeartbeats 400000
namespace Mine
section
variable {α : Type} {prog : Program} {w : World} {M : Model} {A : Around} {E : Value → Shared → Prop} {s : Shared}
theorem not_and {a b c : Bool} (h : a = true) : ((!a && b) && c) = false := by rw [h]; rfl
theorem mark_none {own : List String} {e : Value} {Q : Unit → Shared → Prop} (h : Q () s) : wpC M A (markTheRefusal own e) Q E s := by
  unfold markTheRefusal
  refine wpC_bind ?_
  refine wpC_stack fun st hc => ?_
  have e : pythonCodeMadeTheCall own (st.map (·.1)) = false := by
    unfold pythonCodeMadeTheCall
    exact not_and hc
  rw [if_neg (by rw [e]; exact Bool.false_ne_true)]
  exact wpC_pure h

theorem wpC_ite_pos {c : Prop} [Decidable c] {a b : Sem α} {Q : α → Shared → Prop} (hc : c) (h : wpC M A a Q E s) : wpC M A (if c then a else b) Q E s := by rw [if_pos hc]; exact h
theorem wpC_ite_neg {c : Prop} [Decidable c] {a b : Sem α} {Q : α → Shared → Prop} (hc : ¬ c) (h : wpC M A b Q E s) : wpC M A (if c then a else b) Q E s := by rw [if_neg hc]; exact h
theorem wpC_rule {tag : String} {Q : Unit → Shared → Prop} (h : Q () s) : wpC M A (rule tag) Q E s := fun _ _ _ _ => h

theorem refuse {x : PySem.Str} {u : Tok} {β : Type} {Q : β → Shared → Prop} (hl : x.length ≤ 640) (hx : ∀ c ∈ x.cps.toList, c < 16 ^ 8) (hh : A.handled = none)
    (h : ∀ h' tk e, Heap.NewExc s.heap h' e "ValueError" → E (.ref e) { s with heap := h', toks := tk }) (pre : PySem.Str) (hp : pre.length ≤ 1000) :
    wpC (model prog w) A (do
      let shown ← pyRepr (.str x u)
      let y ← mkStr (pre ++ ⟨shown.cps.extract 0 200⟩)
      let refusal ← newExc (.type "ValueError") [y]
      markTheRefusal ["int.__new__"] refusal
      raiseNew refusal : Sem β) Q E s := by
  have hrl := StrLaws.reprText_len x hx
  have hsl : sizeLine = 16777216 := sizeLine_eq
  refine wpC_any (wpAny_pyRepr_str ?_ (by omega))
  refine wpC_any (wpAny_mkStr ?_ ?_)
  · refine wpC_any (wpAny_newExc_plain plainExc_ValueError fun h' e he => ?_)
    refine wpC_bind (mark_none ?_)
    refine wpC_of (wpAny_raiseNew_none hh ?_)
    exact h h' _ e he.newExc
  · show (pre.cps ++ (reprText x).cps.extract 0 200).size ≤ sizeLine
    rw [Array.size_append, Array.size_extract]
    have : pre.cps.size ≤ 1000 := hp
    omega

theorem text_bad {x : PySem.Str} {u : Tok} {Q : Value → Shared → Prop} (hb : PySem.intText? x = none) (hl : x.length ≤ 640) (hx : ∀ c ∈ x.cps.toList, c < 16 ^ 8) (hh : A.handled = none)
    (h : ∀ h' tk e, Heap.NewExc s.heap h' e "ValueError" → E (.ref e) { s with heap := h', toks := tk }) :
    wpC (model prog w) A ((int_private% "intFromText") (.str x u) (numTextOf x) 10) Q E s := by
  have hs : (numSeenOf x).length ≤ 640 := Nat.le_trans (seen_length x) hl
  refine wpC_ite_pos hs ?_
  refine wpC_bind ?_
  refine wpC_pure ?_
  dsimp only
  rcases read0 x hs with ⟨m, h1, _⟩ | ⟨_, hr | ⟨i, hr, hne⟩⟩
  · rw [hb] at h1; cases h1
  · rw [hr]
    dsimp only
    refine wpC_bind ?_
    refine wpC_of_eq (a := none) rfl ?_
    refine wpC_ite_neg (by simp) ?_
    refine wpC_bind (wpC_rule ?_)
    refine wpC_bind ?_
    refine wpC_of_eq (a := none) rfl ?_
    exact refuse hl hx hh h _ (by decide +kernel)
  · rw [hr]
    dsimp only
    refine wpC_ite_neg hne ?_
    refine wpC_bind (wpC_rule ?_)
    refine wpC_bind ?_
    refine wpC_of_eq (a := none) rfl ?_
    exact refuse hl hx hh h _ (by decide +kernel)
end
end Mine
end
section
open PySem PySem.W PyProof.Rows PySem.Calls
set_option maxRecDepth 100000
set_option maxHeartbeats 400000
namespace Mine
theorem index10 (t : Tok) : Builtin.Int.intIndex "int.__new__" (.int 10 t) = pure 10 := rfl
section
variable {α : Type} {prog : Program} {w : World} {M : Model} {A : Around} {E : Value → Shared → Prop} {s : Shared}
theorem new10 {x : PySem.Str} {u t : Tok} {Q : Fin → Shared → Prop} (h : wpC M A ((int_private% "intFromText") (.str x u) (numTextOf x) 10) (fun v s' => Q (.done (.ret v)) s') E s) :
    wpC M A (Builtin.«int.__new__» ⟨[.type "int", .str x u, .int 10 t], []⟩) Q E s := by
  unfold Builtin.«int.__new__»
  dsimp only
  refine wpC_bind ?_
  refine wpC_of_eq (a := true) rfl ?_
  refine wpC_ite_neg (by decide) ?_
  refine wpC_bind ?_
  refine wpC_of_eq F.conv_sub_int ?_
  refine wpC_ite_neg (by decide) ?_
  refine wpC_bind ?_
  refine wpC_of_eq F.madeHere_int ?_
  refine wpC_ite_neg (by simp) ?_
  refine wpC_ite_neg (by simp) ?_
  refine wpC_bind ?_
  refine wpC_of_eq (a := ⟨⟩) rfl ?_
  dsimp only [List.head?_cons]
  refine wpC_bind ?_
  refine wpC_of_eq (index10 t) ?_
  refine wpC_ite_neg (by decide) ?_
  refine wpC_bind ?_
  refine wpC_of_eq (a := some (numTextOf x)) rfl ?_
  refine wpC_bind (wpC_mono h (fun v s' hv => ?_) fun _ _ e => e)
  refine wpC_ite_pos (by decide) ?_
  exact wpC_pure hv
theorem fromObj {x : PySem.Str} {u : Tok} {Q : Value → Shared → Prop} (h : wpC M A ((int_private% "intFromText") (.str x u) (numTextOf x) 10) Q E s) :
    wpC M A ((int_private% "intFromObject") (.str x u)) Q E s := by
  have f3 := KIN.str_int
  have f4 := KIN.str_idx
  have f5 := KIN.str_trunc
  have f6 : typeOf (.str x u) = pure (.type "str") := rfl
  have e1 : specialOf (.str x u) "__int__" = pure none := by simp only [specialOf, f6, pure_bind, f3]
  have e2 : specialOf (.str x u) "__index__" = pure none := by simp only [specialOf, f6, pure_bind, f4]
  have e3 : specialOf (.str x u) "__trunc__" = pure none := by simp only [specialOf, f6, pure_bind, f5]
  have e4 : callSpecial? (.str x u) "__int__" = pure none := by simp only [callSpecial?, e1, pure_bind]
  refine wpC_bind ?_
  refine wpC_of_eq e4 ?_
  refine wpC_bind ?_
  refine wpC_of_eq e2 ?_
  refine wpC_ite_neg (by decide) ?_
  refine wpC_bind ?_
  refine wpC_of_eq e3 ?_
  refine wpC_bind ?_
  refine wpC_of_eq (a := some (numTextOf x)) rfl ?_
  exact h
theorem new1 {x : PySem.Str} {u : Tok} {Q : Fin → Shared → Prop} (h : wpC M A ((int_private% "intFromText") (.str x u) (numTextOf x) 10) (fun v s' => Q (.done (.ret v)) s') E s) :
    wpC M A (Builtin.«int.__new__» ⟨[.type "int", .str x u], []⟩) Q E s := by
  unfold Builtin.«int.__new__»
  dsimp only
  refine wpC_bind ?_
  refine wpC_of_eq (a := true) rfl ?_
  refine wpC_ite_neg (by decide) ?_
  refine wpC_bind ?_
  refine wpC_of_eq F.conv_sub_int ?_
  refine wpC_ite_neg (by decide) ?_
  refine wpC_bind ?_
  refine wpC_of_eq F.madeHere_int ?_
  refine wpC_ite_neg (by simp) ?_
  refine wpC_ite_neg (by simp) ?_
  refine wpC_bind ?_
  refine wpC_of_eq (a := ⟨⟩) rfl ?_
  dsimp only [List.head?_cons]
  refine wpC_bind (wpC_mono (fromObj h) (fun v s' hv => ?_) fun _ _ e => e)
  refine wpC_ite_pos (by decide) ?_
  exact wpC_pure hv
end
section
variable {prog : Program} {w : World} {A : Around} {E : Value → Shared → Prop} {s : Shared}
theorem typeCall10 (a b : Value) : checkTypeCall "int" ⟨[a, b], []⟩ = pure () := by kernel_rfl
theorem newCall10 (a b : Value) : checkBuiltinCall "int.__new__" ⟨[.type "int", a, b], []⟩ = pure () := by kernel_rfl
theorem codeC_builtin {id : String} {args : Args} {b : Builtin} {R : Result → Shared → Prop} (hb : entryFor table id = some b)
    (h : wpC (model prog w) (A.under (.builtin id args)) (b args) (fun fin s' => match fin with | .done f => R (.ok f) s' | .again c' => c'.quiet = true ∧ codeC (model prog w) A c' R s') (fun e s' => R (.error e) s') s) :
    codeC (model prog w) A (.builtin id args) R s := by
  refine codeC_of_tree ?_
  show wpC _ _ (match entryFor table id with | some b => b args | none => unsupported ((withoutEnding? id "#data").getD id)) _ _ s
  rw [hb]
  exact h
theorem codeC_call_builtin {id : String} {args : Args} {b : Builtin} {R : Result → Shared → Prop} (hq : plainId id = true) (hb : entryFor table id = some b) (hc : checkBuiltinCall id args = pure ())
    (h : wpC (model prog w) A.in1 (b args) (fun fin s' => match fin with | .done f => R (.ok f) s' | .again _ => False) (fun e s' => R (.error e) s') s) : codeC (model prog w) A (.call (.builtin id) args) R s := by
  refine codeC_of_tree ?_
  show wpC _ A.in1 (do checkBuiltinCall id args; again (.builtin id args)) _ _ s
  refine wpC_bind (wpC_of_eq hc (wpC_pure (And.intro (plainId_quiet hq args) (codeC_of_tree ?_))))
  rw [Around.under_plainId hq args]
  show wpC _ _ (match entryFor table id with | some b => b args | none => unsupported ((withoutEnding? id "#data").getD id)) _ _ s
  rw [hb]
  refine wpC_mono h (fun fin s' x => ?_) fun _ _ e => e
  cases fin with
  | done f => exact x
  | again c => exact x.elim

/-- a call of int that does not come back: it raises -/
theorem callInt {args : List Value} {Q : Value → Shared → Prop} (h1 : checkTypeCall "int" ⟨args, []⟩ = pure ()) (h2 : checkBuiltinCall "int.__new__" ⟨.type "int" :: args, []⟩ = pure ())
    (h : wpC (model prog w) A.in1.in1 (Builtin.«int.__new__» ⟨.type "int" :: args, []⟩) (fun fin s' => ∃ v, fin = .done (.ret v) ∧ Q v s') E s)
    (hQ : ∀ v s', ¬ Q v s') : wpC (model prog w) A (call (.type "int") args) Q E s := by
  obtain ⟨c, tl, hmro⟩ := F.called_int.mro
  refine wpC_call (codeC_of_tree ?_)
  show wpC _ _ (callAny (.type "int") _) _ _ _
  refine wpC_pure ⟨Code.quiet_builtin _ (by decide +kernel), codeC_builtin F.entry_type_call ?_⟩
  rw [Around.under_plain (weight_type_call_type "int" args []) (units_type_call_type "int" args [])]
  unfold Builtin.«type.__call__»
  dsimp only
  have h3 := F.called_int.notType
  have h4 := F.called_int.canCreate
  rw [if_neg (by rw [h3]; exact Bool.false_ne_true), if_neg (by rw [h4]; exact Bool.false_ne_true)]
  refine wpC_bind ?_
  refine wpC_of_eq h1 ?_
  refine wpC_bind ?_
  refine wpC_of_eq hmro ?_
  refine wpC_ite_neg (by simp) ?_
  refine wpC_bind ?_
  refine wpC_of_eq F.called_int.made ?_
  refine wpC_bind ?_
  refine wpC_pure ?_
  refine wpC_bind ?_
  refine wpC_holding ?_
  refine wpC_call (codeC_call_builtin F.called_int.plain F.entry_int_new h2 (wpC_mono h ?_ fun _ _ e => e))
  rintro fin s' ⟨v, rfl, q⟩
  exact (hQ v s' q).elim
theorem int10_bad {x : PySem.Str} {u t : Tok} {Q : Value → Shared → Prop} (hb : PySem.intText? x = none) (hl : x.length ≤ 640) (hx : ∀ c ∈ x.cps.toList, c < 16 ^ 8) (hh : A.handled = none)
    (h : ∀ h' tk e, Heap.NewExc s.heap h' e "ValueError" → E (.ref e) { s with heap := h', toks := tk }) : wpC (model prog w) A (call (.type "int") [.str x u, .int 10 t]) Q E s := by
  refine wpC_mono (Q := fun _ _ => False) ?_ (fun _ _ e => e.elim) fun _ _ e => e
  refine callInt (typeCall10 _ _) (newCall10 _ _) (new10 ?_) fun _ _ e => e
  exact text_bad hb hl hx hh h
theorem int1_bad {x : PySem.Str} {u : Tok} {Q : Value → Shared → Prop} (hb : PySem.intText? x = none) (hl : x.length ≤ 640) (hx : ∀ c ∈ x.cps.toList, c < 16 ^ 8) (hh : A.handled = none)
    (h : ∀ h' tk e, Heap.NewExc s.heap h' e "ValueError" → E (.ref e) { s with heap := h', toks := tk }) : wpC (model prog w) A (call (.type "int") [.str x u]) Q E s := by
  refine wpC_mono (Q := fun _ _ => False) ?_ (fun _ _ e => e.elim) fun _ _ e => e
  refine callInt (F.typeCall_int_1 _) (F.newCall_int_1 _) (new1 ?_) fun _ _ e => e
  exact text_bad hb hl hx hh h
end
end Mine
end
section
open PySem PySem.W PyProof.Rows PySem.Calls
set_option maxRecDepth 100000
set_option maxHeartbeats 400000
namespace Mine
section
variable {α : Type} {prog : Program} {w : World} {M : Model} {A : Around} {E : Value → Shared → Prop} {s : Shared}
theorem wpAny_ite_pos' {c : Prop} [Decidable c] {a b : Sem α} {Q : α → Shared → Prop} (hc : c) (h : wpAny M A a Q E s) : wpAny M A (if c then a else b) Q E s := by rw [if_pos hc]; exact h
theorem wpAny_ite_neg' {c : Prop} [Decidable c] {a b : Sem α} {Q : α → Shared → Prop} (hc : ¬ c) (h : wpAny M A b Q E s) : wpAny M A (if c then a else b) Q E s := by rw [if_neg hc]; exact h
theorem new10A {x : PySem.Str} {u t : Tok} {Q : Fin → Shared → Prop} (h : wpAny M A ((int_private% "intFromText") (.str x u) (numTextOf x) 10) (fun v s' => Q (.done (.ret v)) s') E s) :
    wpAny M A (Builtin.«int.__new__» ⟨[.type "int", .str x u, .int 10 t], []⟩) Q E s := by
  unfold Builtin.«int.__new__»
  dsimp only
  refine wpAny_bind ?_
  refine wpAny_of_eq (a := true) rfl ?_
  refine wpAny_ite_neg' (by decide) ?_
  refine wpAny_bind ?_
  refine wpAny_of_eq F.conv_sub_int ?_
  refine wpAny_ite_neg' (by decide) ?_
  refine wpAny_bind ?_
  refine wpAny_of_eq F.madeHere_int ?_
  refine wpAny_ite_neg' (by simp) ?_
  refine wpAny_ite_neg' (by simp) ?_
  refine wpAny_bind ?_
  refine wpAny_of_eq (a := ⟨⟩) rfl ?_
  dsimp only [List.head?_cons]
  refine wpAny_bind ?_
  refine wpAny_of_eq (index10 t) ?_
  refine wpAny_ite_neg' (by decide) ?_
  refine wpAny_bind ?_
  refine wpAny_of_eq (a := some (numTextOf x)) rfl ?_
  refine wpAny_bind (wpAny_mono h (fun v s' hv => ?_) fun _ _ e => e)
  refine wpAny_ite_pos' (by decide) ?_
  exact wpAny_pure hv
theorem gives10 {x : PySem.Str} {u t : Tok} {n : Int} (hl : x.length ≤ 640) (hn : PySem.intText? x = some n) : Gives (Builtin.«int.__new__» ⟨[.type "int", .str x u, .int 10 t], []⟩) (.int n) :=
  .of_wp fun M A E s Q h => by
    have hs : (numSeenOf x).length ≤ 640 := Nat.le_trans (seen_length x) hl
    rcases read0 x hs with ⟨m, h1, h2, h3⟩ | ⟨h1, _⟩
    · rw [hn] at h1
      injection h1 with h1
      subst h1
      refine new10A (KIN.wp_text hs h3 h2 ?_)
      exact ⟨_, rfl, h⟩
    · rw [hn] at h1
      cases h1
theorem int10_good {x : PySem.Str} {u t : Tok} {n : Int} {Q : Value → Shared → Prop} (hn : PySem.intText? x = some n) (hl : x.length ≤ 640) (h : Q (.int n s.toks) { s with toks := s.toks + 1 }) :
    wpAny (model prog w) A (call (.type "int") [.str x u, .int 10 t]) Q E s :=
  callType_new F.called_int F.newNe_int (typeCall10 _ _) (newCall10 _ _) (fun obj => F.args_object_init_3 obj _ _) F.entry_int_new (gives10 hl hn).meets
    (show (Made.int n).post _ s from ⟨rfl, h⟩)
end
end Mine
end
section
open PySem PySem.W PyProof.Rows PySem.Calls
set_option maxRecDepth 100000
set_option maxHeartbeats 400000
namespace Mine
section
variable {M : Model} {A : Around} {E : Value → Shared → Prop} {s : Shared} {env : Env}
theorem CallC {func : Expr} {args : List Expr} {pos : Pos} {Q : Value → Shared → Prop}
    (h : wpAny M A (eval func env) (fun f s₁ => wpC M A (callWith pos f [] (backTo pos (starEach args env)) []) Q E s₁) E s)
    (he : eval (.Call func args [] pos) env = (do callWith pos (← eval func env) [] (backTo pos (starEach args env)) (backToKw pos (keywordEach [] env))) := by rfl) :
    wpC M A (eval (.Call func args [] pos) env) Q E s := by
  rw [he]; exact wpC_any h
theorem callWithC {pos : Pos} {a : Addr} {o : Obj} {fd : FuncData} {args : List (Bool × Sem Value)} {Q : Value → Shared → Prop}
    (h : wpAny M A (evalArgs (.ref a) true args []) (fun x s₁ => (s₁.heap.get? a = some o ∧ o.data = .func fd) ∧ wpC M A (call (.ref a) ([] ++ x.pos) x.kw) Q E s₁) E s) :
    wpC M A (callWith pos (.ref a) [] args []) Q E s := by
  unfold callWith
  refine wpC_any (wpAny_holding (wpAny_mono h (fun x s₁ h₁ => ?_) fun _ _ x => x))
  refine wpC_bind (wpC_standAt ?_)
  have tail : ∀ {t : Sem Value}, wpC M A t Q E s₁ → wpC M A (t >>= fun r => holding [r] point >>= fun _ => pure r) Q E s₁ :=
    fun ht => wpC_bind (wpC_mono ht (fun r s₂ hr => wpC_of (wpAny_bind (wpAny_holding (wpAny_point (wpAny_pure hr))))) fun _ _ x => x)
  cases hs : args.any (·.1) <;> simp only [List.any_nil, Bool.or_false] <;>
    refine wpC_bind (m := keeperOf (.ref a)) ?_ <;> unfold keeperOf <;>
    refine wpC_any (wpAny_load h₁.1.1 ?_) <;> rw [h₁.1.2] <;> refine wpC_pure ?_
  · first
      | exact tail h₁.2
      | (repeat' split) <;> first | exact tail h₁.2 | (refine tail ?_; unfold callMarked; exact wpC_keep h₁.2)
  · first
      | exact tail h₁.2
      | (refine tail ?_; unfold callMarked; exact wpC_keep h₁.2)
theorem callIntC {pos : Pos} {T : String} {args : List (Bool × Sem Value)} {Q : Value → Shared → Prop} (hplain : args.any (·.1) = false)
    (h : wpAny M A (evalArgs (.type T) true args []) (fun a s₁ => wpC M A (call (.type T) ([] ++ a.pos) a.kw) Q E s₁) E s) :
    wpC M A (callWith pos (.type T) [] args []) Q E s := by
  unfold callWith
  refine wpC_any (wpAny_holding (wpAny_mono h (fun a s₁ h₁ => ?_) fun _ _ x => x))
  refine wpC_bind (wpC_standAt ?_)
  simp only [hplain, List.any_nil, Bool.or_false]
  refine wpC_bind (wpC_pure ?_)
  exact wpC_bind (wpC_mono h₁ (fun r s₂ hr => wpC_of (wpAny_bind (wpAny_holding (wpAny_point (wpAny_pure hr))))) fun _ _ x => x)
end
section
variable {prog : Program} {w : World} {A : Around} {s : Shared} {mg mb : Str → Option Value} {E : Value → Shared → Prop} {Q : Value → Shared → Prop} {env : Env}
theorem callDefC {pos : Pos} {f : Addr} {oc : Value} {od : Option Addr} {fd : FuncData} {osl : Array (Option Value)} {e : Expr} {rest : List Expr}
    (ho : (KF w).lookup f = some ⟨oc, od, .func fd, osl⟩)
    (h : wpAny (model prog w) A (spliced (backTo pos (starEach (e :: rest) env))) (fun vs s₁ => Gd w mg mb s₁.heap ∧ wpC (model prog w) A (call (.ref f) vs) Q E s₁) E s)
    (he : starEach (e :: rest) env = (false, eval e env) :: starEach rest env := by rfl) :
    wpC (model prog w) A (callWith pos (.ref f) [] (backTo pos (starEach (e :: rest) env)) []) Q E s := by
  rw [he] at h ⊢
  exact callWithC (o := ⟨oc, od, .func fd, osl⟩) (fd := fd) (evalArgs_plain (wpAny_mono h (fun vs s₁ h₁ => ⟨⟨h₁.1.K _ _ ho, rfl⟩, h₁.2⟩) fun _ _ x => x))
theorem callIntDC {pos : Pos} {e : Expr} {rest : List Expr}
    (h : wpAny (model prog w) A (spliced (backTo pos (starEach (e :: rest) env))) (fun vs s₁ => wpC (model prog w) A (call (.type "int") vs) Q E s₁) E s)
    (he : starEach (e :: rest) env = (false, eval e env) :: starEach rest env := by rfl)
    (hplain : (backTo pos (starEach rest env)).any (·.1) = false := by rfl) :
    wpC (model prog w) A (callWith pos (.type "int") [] (backTo pos (starEach (e :: rest) env)) []) Q E s := by
  rw [he] at h ⊢
  exact callIntC (by show (false || (backTo pos (starEach rest env)).any (·.1)) = false; rw [hplain]; rfl) (evalArgs_plain h)

theorem enterC
    {name qual : Str} {params : Arguments} {body : List Stmt} {scope : Scope} {dV kV doc pm cdv ct oc : Value} {an od : Option Addr} {osl : Array (Option Value)} {f : Addr} {args : List Value} {binds : List (Str × Value)}
    (G : Gd w mg mb s.heap)
    (ho : (KF w).lookup f = some ⟨oc, od, .func (fnOf name qual params body scope dV kV doc pm an cdv ct), osl⟩) (hcd : codeIn (KF w) cdv qual = true) (hroom : A.depth < recursionLimit)
    (hbind : BindsTo s (fnOf name qual params body scope dV kV doc pm an cdv ct) ⟨args, []⟩ binds) (hloc : ∀ y ∈ binds, scope.names.lookup y.1 = some .local)
    (h : ∀ h₁, Fr s.heap s.heap.objs.size h₁ (fun y => binds.reverse.lookup y) →
      wpC (model prog w) (A.deeper (envOf qual scope s.heap.objs.size f cdv)) (execs body (envOf qual scope s.heap.objs.size f cdv))
        (fun fl s' => Q (match fl with | .ret v => v | _ => .none) s') (fun _ _ => False)
        { s with heap := h₁, toks := s.toks + binds.length })
    (hco : scope.isCoroutine = false := by rfl) (hgen : scope.isGenerator = false := by rfl) (hk : scope.kind = .function := by rfl)
    (hcell : ∀ x ∈ scope.names, x.2 ≠ .cell := by decide) : wpC (model prog w) A (call (.ref f) args) Q E s := by
  refine wpC_call (codeC_of_tree ?_)
  show wpC _ A.in1 (callAny (.ref f) ⟨args, []⟩) _ _ s
  simp only [callAny]
  refine wpC_any (wpAny_load (G.K _ _ ho) ?_)
  obtain ⟨c, oc', vs, tq, hc, hoc, hdc, hq⟩ := codeRec_of G.K hcd
  have hcv : cdv = .ref c := hc
  subst hcv
  dsimp only
  unfold callFunction
  have e1 : (fnOf name qual params body scope dV kV doc pm an (.ref c) ct).scope.isCoroutine = false := hco
  have e2 : (fnOf name qual params body scope dV kV doc pm an (.ref c) ct).scope.isGenerator = false := hgen
  have e3 : (fnOf name qual params body scope dV kV doc pm an (.ref c) ct).body = .stmts body := rfl
  have e4 : (fnOf name qual params body scope dV kV doc pm an (.ref c) ct).code = .ref c := rfl
  simp only [e1, e2, e3, e4]
  refine wpC_any (wpAny_field hoc hdc hq ?_)
  refine wpC_bind (wpC_pure ?_)
  refine wpC_any (hbind _ _ _ _ ?_)
  refine wpC_any (wpAny_newFunctionEnv hcell hloc (fun h₀ hns₀ hsb₀ => ?_) hk)
  refine wpC_any (wpAny_enterFrame (G.T.nolimit.fresh _ hsb₀) hroom ?_)
  simp only [hgen, hco]
  refine wpC_pure ⟨rfl, codeC_func ?_⟩
  refine wpC_mono (h h₀ ⟨hns₀, fun b o e => ?_, Nat.le_refl _⟩) (fun fl s' hl => hl) fun _ _ y => y
  exact hsb₀.extBut b o (Nat.ne_of_lt (Heap.lt_size e)) (Heap.get?_push_of_some _ e)
end
end Mine
end
section
open PySem PySem.W PyProof.Rows PySem.Calls
set_option maxRecDepth 100000
set_option maxHeartbeats 400000
namespace Mine
noncomputable def stE (w : World) : Array DictEntry := match (KF w).lookup 37 with | some ⟨_, _, .dict es _, _⟩ => es | _ => #[]
noncomputable def stN (w : World) : Nat := match (KF w).lookup 37 with | some ⟨_, _, .dict _ n, _⟩ => n | _ => 0
theorem st37 (w : World) : (KF w).lookup 37 = some ⟨.type "dict", none, .dict (stE w) (stN w), #[]⟩ := by kernel_rfl!
def isI : Value → Bool | .int .. => true | _ => false
def inI : Value → Int | .int n _ => n | _ => 0
theorem stI (w : World) : (stE w).toList.all (fun e => isI e.val) = true := by kernel_rfl!
theorem stK (w : World) : KeysLit w.params (stE w).toList := by
  show KeysLit w.params (match (KF w).lookup 37 with | some ⟨_, _, .dict es _, _⟩ => es | _ => #[]).toList
  repeat' first | exact True.intro | refine ⟨⟨_, _, rfl, rfl⟩, ?_⟩
noncomputable def stage (w : World) (p : Str) : Int := inI ((findBy Value.isStrOf (stE w) p).getD (.int 0 0))
theorem stage_is (w : World) (p : Str) (t : Tok) : ∃ t', (findBy Value.isStrOf (stE w) p).getD (.int 0 t) = .int (stage w p) t' := by
  unfold stage
  cases h : findBy Value.isStrOf (stE w) p with
  | none => exact ⟨t, rfl⟩
  | some v =>
    unfold findBy at h
    obtain ⟨e, he, rfl⟩ := Option.map_eq_some_iff.mp h
    have hm := Array.mem_of_find?_eq_some he
    have := List.all_eq_true.mp (stI w) e (Array.mem_toList_iff.mpr hm)
    show ∃ t', e.val = _
    cases hv : e.val with
    | int n t => exact ⟨t, rfl⟩
    | _ => rw [hv] at this; cases this
theorem stage_rc (w : World) : stage w "rc" = 50 := by kernel_rfl!
end Mine
end
section
open PySem PySem.W PyProof.Rows PySem.Calls
set_option maxRecDepth 100000
set_option maxHeartbeats 400000
namespace Mine
section
variable {prog : Program} {w : World} {A₀ : Around} {s : Shared} {mg mb : Str → Option Value} {hb : Heap} {L L' a : Addr} {oL : Obj} {envL : Env} {name : Str} {scope : Scope} {cd : Value}

theorem tryVEC {body orelse : List Stmt} {b₀ : Stmt} {suite : List Stmt} {np hpos pos : Pos} {Q : Flow → Shared → Prop}
    (hfr : A₀.frames = some [envL]) (eL : EnvL envL L oL) (G : Gd w mg mb hb)
    (hbody : wpC (model prog w) (A₀.deeper (envOf name scope L' a cd)) (execs body (envOf name scope L' a cd))
      (fun f s₁ => match f with | .next => wpAny (model prog w) (A₀.deeper (envOf name scope L' a cd)) (execs orelse (envOf name scope L' a cd)) Q (fun _ _ => False) s₁ | f => Q f s₁)
      (fun e s₁ => ∃ ea h m, e = .ref ea ∧ Heap.NewExc h s₁.heap ea "ValueError" ∧ Fr hb L' h m ∧ LawFr hb h L L' oL ∧
        ∀ h', Fr hb L' h' m → (∀ b o, b ≠ L → b ≠ L' → h.get? b = some o → h'.get? b = some o) → LawFr hb h' L L' oL →
          wpAny (model prog w) ((A₀.deeper (envOf name scope L' a cd)).mark (some (.ref ea))) (execs (b₀ :: suite) (envOf name scope L' a cd)) Q (fun _ _ => False) { s₁ with heap := h' }) s)
    (hk : scope.kind = .function := by rfl) (hxk : (envOf name scope L' a cd).kindOf "ValueError" = some .globalImplicit := by rfl) :
    wpC (model prog w) (A₀.deeper (envOf name scope L' a cd)) (exec (.Try body [.ExceptHandler (some (.Name "ValueError" np)) none (b₀ :: suite) hpos] orelse [] pos) (envOf name scope L' a cd)) Q (fun _ _ => False) s := by
  have M := G.nm
  refine wpC_Try_except (wpC_mono hbody (fun _ _ x => x) fun e s₁ he => ?_)
  obtain ⟨ea, h, m, rfl, hx, F, ⟨⟨sl, hL⟩, hbL, hne⟩, hk'⟩ := he
  have N : News hb L' h (others hb h L L' ++ [(L, { oL with slots := sl })]) := fun p hp => by
    rcases List.mem_append.mp hp with hp | hp
    · obtain ⟨_, h2, h3, h4⟩ := mem_others.mp hp
      exact ⟨h4, h2, h3⟩
    · rw [List.mem_singleton.mp hp]
      exact ⟨hL, hne, hbL⟩
  have Fs : TI.Frs [envL] [(L, { oL with slots := sl })] := ⟨eL.kind, eL.fr, eL.dict, trivial⟩
  refine TLg.noted_newA (new := others hb h L L') hfr Fs hx F N (fun p hp hm => ?_) (fun h' frs' SU Fs' H => ?_) hk
  · obtain ⟨h1, h2, _, _⟩ := mem_others.mp hp
    rcases List.mem_cons.mp hm with q | hm
    · exact h2 q
    · exact h1 (List.mem_singleton.mp hm)
  · obtain ⟨sl', rfl⟩ := TLg.one_up SU
    refine H.land fun h'' H' => ?_
    refine wpAny_handleBy_builtin (X := "ValueError") (T := "ValueError") (b := true) (isSubtype_of_subB (by decide +kernel)) (isSubtype_of_subB (by decide +kernel)) (isSubtype_of_subB (by decide +kernel))
      (wpAny_passesOwnAt PassesOwnAt.never (ld_builtin_at H'.held.fr G.T.g M.gve G.T.b M.bve ⟨rfl, H'.isA, ?_⟩ hk hxk (by decide)))
    rw [if_pos rfl]
    refine H'.lands fun h₃ F₃ N₃ => wpAny_passesOwnAt PassesOwnAt.never (hk' h₃ F₃ (fun b o h1 h2 e => ?_) ⟨⟨sl', ?_⟩, hbL, hne⟩)
    · cases hq : hb.get? b with
      | some o' =>
        have := F.keep b o' hq
        rw [e] at this; cases this
        exact F₃.keep b o hq
      | none => exact (N₃ (b, o) (List.mem_append_left _ (mem_others.mpr ⟨h1, h2, hq, e⟩))).1
    · exact (N₃ _ (List.mem_append_right _ (List.mem_singleton.mpr rfl))).1
end
/-! atoms: what is read without a heap -/
abbrev No : Addr → Prop := fun _ => False
theorem Lo.no {h h' : Heap} : Lo No h h' := fun _ _ _ _ k => k.elim
theorem RdAll.atoms {h h' : Heap} {vs : List Value} {ds : List PyData} (r : RdAll No h vs ds) : RdAll No h' vs ds := r.lq .no
theorem Rd.atom {h h' : Heap} {v : Value} {d : PyData} (r : Rd No h v d) : Rd No h' v d := r.lq .no

theorem LawFr.same {hb h h' : Heap} {L L' a : Addr} {oL : Obj} (x : LawFr hb h L L' oL) (hs : Heap.SameBut a h h') (ha : L ≠ a) : LawFr hb h' L L' oL := by
  obtain ⟨⟨sl, e⟩, o, n⟩ := x
  exact ⟨⟨sl, (hs.2 L ha).trans e⟩, o, n⟩
theorem LawFr.keep {hb h h' : Heap} {L L' : Addr} {oL : Obj} (x : LawFr hb h L L' oL) (hk : ∀ b o, h.get? b = some o → h'.get? b = some o) : LawFr hb h' L L' oL := by
  obtain ⟨⟨sl, e⟩, o, n⟩ := x
  exact ⟨⟨sl, hk _ _ e⟩, o, n⟩
section
variable {M : Model} {A : Around} {E : Value → Shared → Prop} {s : Shared} {name : Str} {scope : Scope} {L a : Addr} {cd : Value} {h₀ : Heap} {m : Str → Option Value}
/-- a store: all but the frame is the same -/
theorem stS {x : Str} {v : Value} {Q : Unit → Shared → Prop} (F : Fr h₀ L s.heap m)
    (h : ∀ h' tk, Heap.SameBut L s.heap h' → Fr h₀ L h' (fun y => if y = x then some v else m y) → Q () { s with heap := h', toks := tk })
    (hk : scope.kind = .function := by rfl) (hl : (envOf name scope L a cd).kindOf x = some .local := by rfl) :
    wpAny M A (storeName (envOf name scope L a cd) x v) Q E s :=
  wpAny_storeName_local hl F.ns (fun h' hn hs => h _ _ hs (F.set hn hs))
    (by show (scope.kind == .class || (scope.kind == .module && L != mainGlobals)) = false; rw [hk]; rfl)
end
end Mine
end
section
open PySem PySem.W PyProof.Rows PySem.Calls
set_option maxRecDepth 100000
set_option maxHeartbeats 400000
namespace Mine
/-! ## the pieces lie in the text -/
theorem sp_mem (text : Array Nat) : ∀ (n st : Nat) (p : Array Nat), p ∈ sp text n st → p.size ≤ text.size ∧ ∀ c ∈ p.toList, c ∈ text.toList := by
  have ex : ∀ a b, (text.extract a b).size ≤ text.size ∧ ∀ c ∈ (text.extract a b).toList, c ∈ text.toList := fun a b => by
    refine ⟨by rw [Array.size_extract]; omega, fun c hc => ?_⟩
    rw [Array.toList_extract] at hc
    exact List.mem_of_mem_drop (List.mem_of_mem_take (by simpa [List.extract] using hc))
  intro n
  induction n with
  | zero =>
    intro st p hp
    unfold sp at hp
    rw [List.mem_singleton.mp hp]; exact ex _ _
  | succ n ih =>
    intro st p hp
    unfold sp at hp
    split at hp
    · rw [List.mem_singleton.mp hp]; exact ex _ _
    · rename_i a b _
      rcases List.mem_cons.mp hp with rfl | hp
      · exact ex _ _
      rcases List.mem_cons.mp hp with rfl | hp
      · exact ex _ _
      · exact ih b p hp

noncomputable def rank1 (w : World) (p : Str) : List PyData := if Txt.contains "._+-" p then [] else match PySem.intText? p with | some n => [.int 100, .int n] | none => [.int (stage w p), .str p]
noncomputable def cmpv (w : World) (x : Str) : List PyData := ((sp x.cps (2 * x.length + 3) 0).map Str.mk).flatMap (rank1 w)

/-- all stays but the slots of the law's frame -/
structure Kp (L : Addr) (oL : Obj) (s s' : Shared) : Prop where
  keep : ∀ b o, b ≠ L → s.heap.get? b = some o → s'.heap.get? b = some o
  law : ∃ sl, s'.heap.get? L = some { oL with slots := sl }
  gens : s'.gens = s.gens
  os : s'.os = s.os

structure CvS (s₀ : Shared) (hb : Heap) (L L' D it ls : Addr) (oL : Obj) (pieces : List (Str × Tok)) (i : Nat) (acc : List PyData) (m : Str → Option Value) (s : Shared) : Prop where
  F : Fr hb L' s.heap m
  law : LawFr hb s.heap L L' oL
  keep : ∀ b o, b ≠ L → s₀.heap.get? b = some o → s.heap.get? b = some o
  gens : s.gens = s₀.gens
  os : s.os = s₀.os
  res : m "result" = some (.ref D)
  lst : ∃ vs n, s.heap.get? D = some { cls := .type "list", data := .seq vs n } ∧ RdAll No s.heap vs.toList acc
  itr : s.heap.IsListIter it ls i
  src : s.heap.IsList ls (strValues pieces).toArray
/-- where the things lie -/
structure CvW (s₀ : Shared) (hb : Heap) (L L' D it ls : Addr) : Prop where
  l1 : @LT.lt Nat instLTNat L s₀.heap.objs.size
  l2 : @Eq Nat L' s₀.heap.objs.size
  l3 : @LT.lt Nat instLTNat L' D
  l4 : @LT.lt Nat instLTNat D ls
  l5 : @LT.lt Nat instLTNat ls it
  l6 : hb.objs.size ≤ s₀.heap.objs.size
theorem addr_ne {a b : Addr} (h : @LT.lt Nat instLTNat a b ∨ @LT.lt Nat instLTNat b a) : a ≠ b := fun e => by subst e; exact h.elim (Nat.lt_irrefl _) (Nat.lt_irrefl _)

section
variable {s₀ s : Shared} {hb : Heap} {L L' D it ls : Addr} {oL : Obj} {pieces : List (Str × Tok)} {i : Nat} {acc : List PyData} {m m' : Str → Option Value}
/-- the steps that leave the three things be -/
theorem CvS.step (W : CvW s₀ hb L L' D it ls) (x : CvS s₀ hb L L' D it ls oL pieces i acc m s) {s' : Shared} (F : Fr hb L' s'.heap m') (hm : m' "result" = some (.ref D)) (law : LawFr hb s'.heap L L' oL)
    (hk : ∀ b o, b ≠ L → b ≠ L' → s.heap.get? b = some o → s'.heap.get? b = some o) (hg : s'.gens = s.gens) (ho : s'.os = s.os) : CvS s₀ hb L L' D it ls oL pieces i acc m' s' := by
  obtain ⟨vs, n, e, r⟩ := x.lst
  obtain ⟨o1, a1, a2⟩ := x.itr
  obtain ⟨o2, b1, b2⟩ := x.src
  have := W.l1; have := W.l2; have := W.l3; have := W.l4; have := W.l5; have := W.l6
  refine ⟨F, law, fun b o h e => hk b o h ?_ (x.keep b o h e), hg.trans x.gens, ho.trans x.os, hm, ⟨vs, n, hk _ _ (addr_ne (by omega)) (addr_ne (by omega)) e, r.atoms⟩, ⟨o1, hk _ _ (addr_ne (by omega)) (addr_ne (by omega)) a1, a2⟩, ⟨o2, hk _ _ (addr_ne (by omega)) (addr_ne (by omega)) b1, b2⟩⟩
  have h9 : @LT.lt Nat instLTNat b s₀.heap.objs.size := Heap.lt_size (by assumption)
  exact addr_ne (by omega)
/-- the iterator goes on -/
theorem CvS.next (W : CvW s₀ hb L L' D it ls) (x : CvS s₀ hb L L' D it ls oL pieces i acc m s) {h' : Heap} (hi : h'.IsListIter it ls (i + 1)) (hs : Heap.SameBut it s.heap h') :
    CvS s₀ hb L L' D it ls oL pieces (i + 1) acc m { s with heap := h' } := by
  obtain ⟨vs, n, e, r⟩ := x.lst
  obtain ⟨o2, b1, b2⟩ := x.src
  have := W.l1; have := W.l2; have := W.l3; have := W.l4; have := W.l5; have := W.l6
  refine ⟨x.F.change hs (addr_ne (by omega)) (Heap.get?_none_of_le (by omega)), x.law.same hs (addr_ne (by omega)), fun b o h e => (hs.2 b ?_).trans (x.keep b o h e), x.gens, x.os, x.res, ⟨vs, n, (hs.2 D (addr_ne (by omega))).trans e, r.atoms⟩, hi, ⟨o2, (hs.2 ls (addr_ne (by omega))).trans b1, b2⟩⟩
  have h9 : @LT.lt Nat instLTNat b s₀.heap.objs.size := Heap.lt_size (by assumption)
  exact addr_ne (by omega)
/-- the list grows -/
theorem CvS.grow (W : CvW s₀ hb L L' D it ls) (x : CvS s₀ hb L L' D it ls oL pieces i acc m s) {h' : Heap} {vs : Array Value} {n : Nat} {acc' : List PyData} (e : h'.get? D = some { cls := .type "list", data := .seq vs n })
    (r : RdAll No h' vs.toList acc') (hs : Heap.SameBut D s.heap h') : CvS s₀ hb L L' D it ls oL pieces i acc' m { s with heap := h' } := by
  obtain ⟨o1, a1, a2⟩ := x.itr
  obtain ⟨o2, b1, b2⟩ := x.src
  have := W.l1; have := W.l2; have := W.l3; have := W.l4; have := W.l5; have := W.l6
  refine ⟨x.F.change hs (addr_ne (by omega)) (Heap.get?_none_of_le (by omega)), x.law.same hs (addr_ne (by omega)), fun b o h e => (hs.2 b ?_).trans (x.keep b o h e), x.gens, x.os, x.res, ⟨vs, n, e, r⟩, ⟨o1, (hs.2 it (addr_ne (by omega))).trans a1, a2⟩, ⟨o2, (hs.2 ls (addr_ne (by omega))).trans b1, b2⟩⟩
  have h9 : @LT.lt Nat instLTNat b s₀.heap.objs.size := Heap.lt_size (by assumption)
  exact addr_ne (by omega)
theorem CvS.tok (x : CvS s₀ hb L L' D it ls oL pieces i acc m s) (t : Nat) : CvS s₀ hb L L' D it ls oL pieces i acc m { s with toks := t } := ⟨x.F, x.law, x.keep, x.gens, x.os, x.res, x.lst, x.itr, x.src⟩
end
end Mine
end
section
open PySem PySem.W PyProof.Rows PySem.Calls
set_option maxRecDepth 100000
set_option maxHeartbeats 400000
namespace Mine
theorem rank1_len (w : World) (p : Str) : (rank1 w p).length ≤ 2 := by
  unfold rank1
  split
  · exact Nat.zero_le _
  · split <;> exact Nat.le_refl _
theorem ranks_len (w : World) : ∀ l : List Str, (l.flatMap (rank1 w)).length ≤ 2 * l.length
  | [] => Nat.le_refl _
  | p :: l => by
    rw [List.flatMap_cons, List.length_append, List.length_cons]
    have := ranks_len w l
    have := rank1_len w p
    omega
theorem extend_at {prog : Program} {w : World} {A : Around} {E : Value → Shared → Prop} {s : Shared} {Q : Value → Shared → Prop} {D b : Addr} {its its2 : Array Value} {n n2 : Nat}
    (hD : s.heap.get? D = some { cls := .type "list", data := .seq its n }) (hB : s.heap.get? b = some { cls := .type "tuple", data := .seq its2 n2 }) (hz : its.size + its2.size ≤ sizeLine)
    (h : ∀ h' n', h'.get? D = some { cls := .type "list", data := .seq (its ++ its2) n' } → Heap.SameBut D s.heap h' → Q .none { s with heap := h' }) :
    wpAny (model prog w) A (call (.builtin "list.extend") [.ref D, .ref b]) Q E s := by
  refine call_meets PySem.F.slot_list_extend ⟨_, hD, rfl⟩ PySem.F.entry_list_extend (PySem.F.args_list_extend_2 _ _) (PySem.AutoSeq1.list_extend_list_tuple_0 D its n b its2 n2 (extend_door hz) (by omega) (by omega)) ⟨hD, hB, ?_⟩
  refine h _ (if (its ++ its2).size == its.size then n else n + 1) ?_ (Heap.SameBut.update ..)
  rw [Heap.get?_update_self _ hD (by rw [mapSeq_app]; rfl), mapSeq_app]
theorem extend_meth {M : Model} {A : Around} {E : Value → Shared → Prop} {s : Shared} {D : Addr} {its : Array Value} {n : Nat} {pl : Sem Bool} {Q : Value × List Value → Shared → Prop}
    (hD : s.heap.get? D = some { cls := .type "list", data := .seq its n }) (h : Q (.builtin "list.extend", [.ref D]) s) : wpAny M A (getMethod (.ref D) "extend" pl) Q E s :=
  getMethod_builtin ⟨_, hD, rfl⟩ PySem.F.plainAttrs_list PySem.F.slot_list_extend PySem.F.type_list_extend (fun a e => by cases e; exact ⟨_, hD, rfl⟩) h
theorem rd_stage (w : World) (p : Str) (t : Tok) (h : Heap) : Rd No h ((findBy Value.isStrOf (stE w) p).getD (.int 0 t)) (.int (stage w p)) := by
  obtain ⟨t', et⟩ := stage_is w p t
  rw [et]; exact .int _ _
theorem cv_spec {prog : Program} {w : World} {A : Around} {s : Shared} {mg mb : Str → Option Value} {E : Value → Shared → Prop} {Q : Value → Shared → Prop} {hb : Heap} {L : Addr} {oL : Obj} {envL : Env} {x : Str} {t : Tok}
    (G : Gd w mg mb hb) (hk : ∀ b o, hb.get? b = some o → s.heap.get? b = some o) (hbL : hb.get? L = none) (hbs : hb.objs.size ≤ s.heap.objs.size)
    (hL : ∃ sl, s.heap.get? L = some { oL with slots := sl }) (eL : EnvL envL L oL) (hfr : A.frames = some [envL]) (hd : A.depth < 500) (hh : A.handled = none)
    (hx : x.length ≤ 600) (hc : ∀ c ∈ x.cps.toList, c < 16 ^ 8)
    (h : ∀ D s', Kp L oL s s' → (∃ vs n, s'.heap.get? D = some { cls := .type "list", data := .seq vs n } ∧ RdAll No s'.heap vs.toList (cmpv w x)) → Q (.ref D) s') :
    wpC (model prog w) A (call (.ref 44) [.str x t]) Q E s := by
  have M := G.nm
  refine enterC (G.keeps hk) rfl rfl (by unfold recursionLimit; omega) (BindsTo.of_eq rfl) (locs rfl) ?_
  intro h₁ F₀
  obtain ⟨sl, hL⟩ := hL
  have F : Fr hb s.heap.objs.size h₁ _ := ⟨F₀.ns, fun b o e => F₀.keep b o (hk b o e), hbs⟩
  have lw : LawFr hb h₁ L s.heap.objs.size oL := ⟨⟨sl, F₀.keep _ _ hL⟩, hbL, Nat.ne_of_lt (Heap.lt_size hL)⟩
  refine wpC_execs_cons ?_
  refine wpC_of ?_
  refine wpAny_Assign_Name ?_
  refine ld_global_at F G.T.g M.re ?_
  refine stS F ?_
  intro h₂ tk₂ hs₂ F₂
  have lw₂ := lw.same hs₂ lw.ne
  refine wpC_execs_cons ?_
  refine wpC_of ?_
  refine wpAny_Assign_Name ?_
  refine List_ ?_
  refine wpAny_items_nil ?_
  refine wpAny_newList ?_
  have F₃ := F₂.push { cls := .type "list", data := .seq #[] }
  refine stS F₃ ?_
  intro h₄ tk₄ hs₄ F₄
  refine wpC_execs_cons ?_
  refine wpC_For ?_
  refine MethodCall_ ?_
  refine ld F₄ rfl ?_
  refine re_meth (G.keeps F₄.keep) ?_
  refine callWith_method1 ?_
  refine args_cons ?_
  refine ld F₄ rfl ?_
  refine args_nil ?_
  refine re_split (G.keeps F₄.keep) (by omega) ?_
  intro pieces tk₅ hp
  have W : CvW s hb L s.heap.objs.size h₂.objs.size (h₄.objs.size + 1) h₄.objs.size := by
    have e1 : @LT.lt Nat instLTNat s.heap.objs.size h₂.objs.size := F₂.ns.lt
    have e2 : h₄.objs.size = h₂.objs.size + 1 := hs₄.1.trans (Heap.size_push _ _)
    exact ⟨Heap.lt_size hL, rfl, e1, by rw [e2]; exact Nat.lt_succ_self _, Nat.lt_succ_self _, hbs⟩
  obtain ⟨m₅, S⟩ : ∃ m₅, CvS s hb L s.heap.objs.size h₂.objs.size (h₄.objs.size + 1) h₄.objs.size oL pieces 0 [] m₅ { s with heap := (h₄.push { cls := .type "list", data := .seq (strValues pieces).toArray }).push { cls := .type "list_iterator", data := .fields #[.ref h₄.objs.size, .int 0 0] }, toks := tk₅ } := by
    refine ⟨_, (F₄.push _).push _, ((lw₂.keep fun b o e => Heap.get?_push_of_some _ e).same hs₄ lw.ne).keep fun b o e => Heap.get?_push_of_some _ (Heap.get?_push_of_some _ e), fun b o hbL e => ?_, rfl, rfl, rfl, ⟨#[], 0, ?_, .nil⟩, ?_, ?_⟩
    · have hne : b ≠ s.heap.objs.size := Nat.ne_of_lt (Heap.lt_size e)
      exact Heap.get?_push_of_some _ (Heap.get?_push_of_some _ ((hs₄.2 b hne).trans (Heap.get?_push_of_some _ ((hs₂.2 b hne).trans (F₀.keep b o e)))))
    · refine Heap.get?_push_of_some _ (Heap.get?_push_of_some _ ((hs₄.2 _ ?_).trans (Heap.get?_push_size _ rfl)))
      exact addr_ne (.inr W.l3)
    · have e := Heap.get?_push_size (h₄.push { cls := .type "list", data := .seq (strValues pieces).toArray }) (o := { cls := .type "list_iterator", data := .fields #[.ref h₄.objs.size, .int 0 0] }) rfl
      rw [Heap.size_push] at e
      exact ⟨_, e, rfl, rfl⟩
    · exact ⟨_, Heap.get?_push_of_some _ (Heap.get?_push_size _ rfl), rfl, _, rfl⟩
  refine wpAny_pyIter_list (items := (strValues pieces).toArray) ⟨_, Heap.get?_push_size _ rfl, rfl, _, rfl⟩ ?_
  have hplen : pieces.length ≤ 2500 := by
    have e1 := congrArg List.length hp
    rw [List.length_map, List.length_map] at e1
    have := sp_length x.cps (2 * x.length + 3) 0
    omega
  have hpc : ∀ q ∈ pieces, q.1.length ≤ 600 ∧ ∀ c ∈ q.1.cps.toList, c < 16 ^ 8 := by
    intro q hq
    have hm : q.1 ∈ pieces.map (·.1) := List.mem_map.mpr ⟨q, hq, rfl⟩
    rw [hp] at hm
    obtain ⟨a, ha, e⟩ := List.mem_map.mp hm
    obtain ⟨h1, h2⟩ := sp_mem _ _ _ _ ha
    rw [← e]
    exact ⟨Nat.le_trans h1 hx, fun c hc' => hc c (h2 c hc')⟩
  clear F₀ F F₂ F₃ F₄ lw lw₂ hs₂ hs₄
  have e5 : (h₄.push { cls := .type "list", data := .seq (strValues pieces).toArray }).objs.size = h₄.objs.size + 1 := Heap.size_push _ _
  dsimp only
  rw [e5]
  generalize h₂.objs.size = D at W S
  revert S
  generalize ((h₄.push { cls := .type "list", data := .seq (strValues pieces).toArray }).push { cls := .type "list_iterator", data := .fields #[.ref h₄.objs.size, .int 0 0] }) = h₅
  intro S
  generalize h₄.objs.size + 1 = it at W S ⊢
  generalize h₄.objs.size = ls at W S
  refine codeC_forLoop (I := fun n s' => ∃ i acc m, CvS s hb L s.heap.objs.size D it ls oL pieces i acc m s' ∧ i ≤ pieces.length ∧ n = pieces.length - i ∧ acc = ((pieces.take i).map (·.1)).flatMap (rank1 w)) ?_ pieces.length ⟨0, [], m₅, S, Nat.zero_le _, rfl, rfl⟩
  rintro n s₁ ⟨i, acc, m, S₁, hi, hn, ha⟩
  by_cases he : i < pieces.length
  · have hxv : (strValues pieces).toArray[i]? = some (.str pieces[i].1 pieces[i].2) := by simp [strValues, he]
    refine wpAny_pyNext_list_item S₁.itr S₁.src hxv ?_
    intro h₂ hi₂ hs₂
    have S₂ := S₁.next W hi₂ hs₂
    have hpi := hpc pieces[i] (List.getElem_mem he)
    have hacc : acc ++ rank1 w pieces[i].1 = ((pieces.take (i + 1)).map (·.1)).flatMap (rank1 w) := by
      rw [List.take_succ_eq_append_getElem he, List.map_append, List.flatMap_append, ← ha]; simp
    have hal : acc.length ≤ 5000 := by
      have := ranks_len w ((pieces.take i).map (·.1))
      rw [← ha, List.length_map, List.length_take] at this
      omega
    generalize pieces[i].1 = p at hpi hacc ⊢
    generalize pieces[i].2 = tp
    refine wpAny_assign_Name ?_
    refine stS S₂.F ?_
    intro h₃ tk₃ hs₃ F₃
    have S₃ := S₂.step W (s' := { s₁ with heap := h₃, toks := tk₃ }) F₃ (by rw [if_neg (by decide)]; exact S₂.res) (S₂.law.same hs₃ S₂.law.ne) (fun b o _ hb' e => (hs₃.2 b hb').trans e) rfl rfl
    refine wpC_execs_cons ?_
    refine wpC_mono (Q := fun f s' => f = .next ∧ ∃ m, CvS s hb L s.heap.objs.size D it ls oL pieces (i + 1) (acc ++ rank1 w p) m s') (E := fun _ _ => False) ?_ ?_ (fun _ _ e => e)
    · refine wpC_If ?_
      refine wpAny_isTrue_Compare1 ?_
      refine ld F₃ rfl ?_
      refine wpAny_Constant_str ?_
      refine SB.notContains ?_
      refine wpAny_truthy_bool ?_
      cases hct : Txt.contains (Str.ofString "._+-") p with
      | true =>
        simp only [Bool.not_true, Bool.false_eq_true, if_false]
        refine wpC_of ?_
        refine wpAny_execs_nil ?_
        have e0 : rank1 w p = [] := by unfold rank1; rw [if_pos hct]
        rw [e0, List.append_nil]
        exact ⟨rfl, _, S₃.tok _⟩
      | false =>
        simp only [Bool.not_false, if_true]
        refine wpC_execs_cons ?_
        refine wpC_mono (Q := fun f s' => f = .next ∧ ∃ m t v d1 d2, CvS s hb L s.heap.objs.size D it ls oL pieces (i + 1) acc m s' ∧ m "t" = some t ∧ m "v" = some v ∧ Rd No s'.heap t d1 ∧ Rd No s'.heap v d2 ∧ rank1 w p = [d1, d2]) (E := fun _ _ => False) ?_ ?_ (fun _ _ e => e)
        · refine tryVEC hfr eL G ?_
          refine wpC_execs_cons ?_
          refine wpC_Assign_Name ?_
          refine CallC ?_
          refine ld_builtin_at F₃ G.T.g M.gint G.T.b M.bint ?_
          refine callIntDC ?_
          refine args_cons ?_
          refine ld F₃ rfl ?_
          refine args_cons ?_
          refine wpAny_Constant_int ?_
          refine args_nil ?_
          cases hit : PySem.intText? p with
          | some k =>
            have e0 : rank1 w p = [.int 100, .int k] := by unfold rank1; rw [if_neg (by rw [hct]; exact Bool.false_ne_true), hit]
            refine wpC_of ?_
            refine int10_good hit (by omega) ?_
            refine stS F₃ ?_
            intro h₄ tk₄ hs₄ F₄
            have S₄ := S₃.step W (s' := { s₁ with heap := h₄, toks := tk₄ }) F₄ (by rw [if_neg (by decide)]; exact S₃.res) (S₃.law.same hs₄ S₃.law.ne) (fun b o _ hb' e => (hs₄.2 b hb').trans e) rfl rfl
            refine wpC_execs_cons ?_
            refine wpC_of ?_
            refine wpAny_Assign_Name ?_
            refine wpAny_Constant_int ?_
            refine stS F₄ ?_
            intro h₅ tk₅ hs₅ F₅
            have S₅ := S₄.step W (s' := { s₁ with heap := h₅, toks := tk₅ }) F₅ (by rw [if_neg (by decide)]; exact S₄.res) (S₄.law.same hs₅ S₄.law.ne) (fun b o _ hb' e => (hs₅.2 b hb').trans e) rfl rfl
            refine wpC_of ?_
            refine wpAny_execs_nil ?_
            refine wpAny_execs_nil ?_
            exact ⟨rfl, _, _, _, _, _, S₅, rfl, rfl, .int _ _, .int _ _, e0⟩
          | none =>
            have e0 : rank1 w p = [.int (stage w p), .str p] := by unfold rank1; rw [if_neg (by rw [hct]; exact Bool.false_ne_true), hit]
            refine int10_bad hit (by omega) hpi.2 hh ?_
            intro hx tkx ea hnew
            refine ⟨ea, h₃, _, rfl, hnew, F₃, S₃.law, fun h₆ F₆ hk₆ law₆ => ?_⟩
            have S₆ := S₃.step W (s' := { s₁ with heap := h₆ }) F₆ S₃.res law₆ hk₆ rfl rfl
            refine wpAny_execs_cons ?_
            refine wpAny_Assign_Name ?_
            refine MethodCall_ ?_
            refine ld_global_at F₆ G.T.g M.vs ?_
            refine dict_meth (mapOf_K (G.keeps F₆.keep).K (st37 w) (stK w)) ?_
            refine callWith_method1 ?_
            refine args_cons ?_
            refine ld F₆ rfl ?_
            refine args_cons ?_
            refine wpAny_Constant_int ?_
            refine args_nil ?_
            refine dict_get (by decide) (mapOf_K (G.keeps F₆.keep).K (st37 w) (stK w)) ?_
            refine stS F₆ ?_
            intro h₇ tk₇ hs₇ F₇
            have S₇ := S₆.step W (s' := { s₁ with heap := h₇, toks := tk₇ }) F₇ (by rw [if_neg (by decide)]; exact S₆.res) (S₆.law.same hs₇ S₆.law.ne) (fun b o _ hb' e => (hs₇.2 b hb').trans e) rfl rfl
            refine wpAny_execs_nil ?_
            refine ⟨rfl, _, _, _, .int (stage w p), _, S₇, rfl, rfl, rd_stage _ _ _ _, .str _ _, e0⟩
        · rintro f s' ⟨rfl, m', tv, vv, d1, d2, S', ht, hv, rt, rv, e0⟩
          refine wpC_execs_cons ?_
          refine wpC_of ?_
          refine wpAny_Expr_any ?_
          obtain ⟨vs, nn, hD, rD⟩ := S'.lst
          refine MethodCall_ ?_
          refine ld S'.F S'.res ?_
          refine extend_meth hD ?_
          refine callWith_method1 ?_
          refine args_cons ?_
          refine Tuple_ ?_
          refine wpAny_items_cons ?_
          refine ld S'.F ht ?_
          refine wpAny_items_cons ?_
          refine ld S'.F hv ?_
          refine wpAny_items_nil ?_
          refine wpAny_newTuple ?_
          refine args_nil ?_
          have hvl := rD.length
          rw [Array.length_toList] at hvl
          refine extend_at (Heap.get?_push_of_some _ hD) (Heap.get?_push_size _ rfl) (by rw [sizeLine_eq]; simp; omega) ?_
          intro h₈ n₈ hD₈ hs₈
          have S₈ := S'.step W (s' := { s' with heap := s'.heap.push { cls := .type "tuple", data := .seq #[tv, vv] } }) (S'.F.push _) S'.res (S'.law.keep fun b o e => Heap.get?_push_of_some _ e) (fun b o _ _ e => Heap.get?_push_of_some _ e) rfl rfl
          have S₉ := S₈.grow W (acc' := acc ++ rank1 w p) hD₈ (by rw [e0, Array.toList_append]; exact rD.atoms.append (.cons rt.atom (.cons rv.atom .nil))) hs₈
          refine wpC_of ?_
          refine wpAny_execs_nil ?_
          exact ⟨rfl, _, S₉⟩
    · rintro f s' ⟨rfl, m', S'⟩
      refine wpC_of ?_
      refine wpAny_execs_nil ?_
      exact ⟨n - 1, by omega, i + 1, _, m', S', by omega, by omega, hacc⟩
  · have hie : i = pieces.length := by omega
    refine wpAny_pyNext_list_end hh S₁.itr S₁.src (by simp [strValues, hie]) ?_
    intro h₂ hx₂
    have l1 := W.l1; have l2 := W.l2; have l3 := W.l3; have l4 := W.l4; have l5 := W.l5; have l6 := W.l6
    have F₉ : Fr hb s.heap.objs.size h₂ m := ⟨S₁.F.ns.at fun o e => hx₂ _ o (addr_ne (by omega)) e, fun b o e => hx₂ b o (by
      have h9 : @LT.lt Nat instLTNat b hb.objs.size := Heap.lt_size e
      exact addr_ne (by omega)) (S₁.F.keep b o e), S₁.F.above⟩
    refine wpC_execs_cons ?_
    refine wpC_of ?_
    refine wpAny_Return_some ?_
    refine ld F₉ S₁.res ?_
    obtain ⟨vs, nn, hD, rD⟩ := S₁.lst
    obtain ⟨⟨sl, hl⟩, _⟩ := S₁.law
    refine h D _ ⟨fun b o hb' e => hx₂ b o ?_ (S₁.keep b o hb' e), ⟨sl, hx₂ _ _ (addr_ne (by omega)) hl⟩, S₁.gens, S₁.os⟩ ⟨vs, nn, hx₂ _ _ (addr_ne (by omega)) hD, ?_⟩
    · have h9 : @LT.lt Nat instLTNat b s.heap.objs.size := Heap.lt_size e
      exact addr_ne (by omega)
    · rw [ha, hie, List.take_length, hp] at rD
      exact rD.atoms
end Mine
end
section
open PySem PySem.W PyProof.Rows PySem.Calls
set_option maxRecDepth 100000
set_option maxHeartbeats 400000
namespace Mine
/-- the state of a function with a try, called from the law -/
structure Ps (s₀ : Shared) (hb : Heap) (L L' : Addr) (oL : Obj) (m : Str → Option Value) (s : Shared) : Prop where
  F : Fr hb L' s.heap m
  law : LawFr hb s.heap L L' oL
  keep : ∀ b o, b ≠ L → s₀.heap.get? b = some o → s.heap.get? b = some o
  gens : s.gens = s₀.gens
  os : s.os = s₀.os
section
variable {s₀ s : Shared} {hb : Heap} {L L' : Addr} {oL : Obj} {m m' : Str → Option Value}
theorem Ps.step (x : Ps s₀ hb L L' oL m s) {s' : Shared} (hL' : s₀.heap.get? L' = none) (F : Fr hb L' s'.heap m') (law : LawFr hb s'.heap L L' oL)
    (hk : ∀ b o, b ≠ L → b ≠ L' → s.heap.get? b = some o → s'.heap.get? b = some o) (hg : s'.gens = s.gens) (ho : s'.os = s.os) : Ps s₀ hb L L' oL m' s' :=
  ⟨F, law, fun b o h e => hk b o h (fun q => by rw [q, hL'] at e; cases e) (x.keep b o h e), hg.trans x.gens, ho.trans x.os⟩
theorem Ps.set (x : Ps s₀ hb L L' oL m s) {h' : Heap} {tk : Nat} (hL' : s₀.heap.get? L' = none) (F : Fr hb L' h' m') (hs : Heap.SameBut L' s.heap h') : Ps s₀ hb L L' oL m' { s with heap := h', toks := tk } :=
  x.step (s' := { s with heap := h', toks := tk }) hL' F (x.law.same hs x.law.ne) (fun b _ _ h e => (hs.2 b h).trans e) rfl rfl
theorem Ps.tok (x : Ps s₀ hb L L' oL m s) (t : Nat) : Ps s₀ hb L L' oL m { s with toks := t } := ⟨x.F, x.law, x.keep, x.gens, x.os⟩
theorem Ps.push (x : Ps s₀ hb L L' oL m s) (o : Obj) : Ps s₀ hb L L' oL m { s with heap := s.heap.push o } :=
  ⟨x.F.push o, x.law.keep fun _ _ e => Heap.get?_push_of_some _ e, fun b o' h e => Heap.get?_push_of_some _ (x.keep b o' h e), x.gens, x.os⟩
/-- a change of something new -/
theorem Ps.change (x : Ps s₀ hb L L' oL m s) {h' : Heap} {D : Addr} (hs : Heap.SameBut D s.heap h') (h0 : s₀.heap.get? D = none) (hbD : hb.get? D = none) (hDL : D ≠ L) (hDL' : D ≠ L') : Ps s₀ hb L L' oL m { s with heap := h' } :=
  ⟨x.F.change hs hDL' hbD, x.law.same hs hDL.symm, fun b o h e => (hs.2 b (fun q => by rw [q, h0] at e; cases e)).trans (x.keep b o h e), x.gens, x.os⟩
theorem Ps.kp (x : Ps s₀ hb L L' oL m s) : Kp L oL s₀ s := ⟨x.keep, x.law.at_, x.gens, x.os⟩

variable {prog : Program} {w : World} {A : Around} {E : Value → Shared → Prop} {Q : Value → Shared → Prop}
theorem split_new {x y : Str} {t u : Tok} (X : Ps s₀ hb L L' oL m s) (hL' : s₀.heap.get? L' = none) (hL : ∃ o, s₀.heap.get? L = some o) (hy : (y.length == 0) = false)
    (h : ∀ D l h' k, l.map (·.1) = Txt.split x y → Ps s₀ hb L L' oL m { s with heap := h', toks := k } → h'.get? D = some (listOf (strValues l).toArray 0) → s₀.heap.get? D = none → D ≠ L → D ≠ L' → hb.get? D = none →
      Q (.ref D) { s with heap := h', toks := k }) (hsz : x.length + 2 ≤ sizeLine) :
    wpAny (model prog w) A (call (.builtin "str.split") [.str x t, .str y u]) Q E s := by
  obtain ⟨⟨sl, hl⟩, hbL, hne⟩ := id X.law
  have N : News hb L' s.heap (others hb s.heap L L' ++ [(L, { oL with slots := sl })]) := fun p hp => by
    rcases List.mem_append.mp hp with hp | hp
    · obtain ⟨_, h2, h3, h4⟩ := mem_others.mp hp
      exact ⟨h4, h2, h3⟩
    · rw [List.mem_singleton.mp hp]
      exact ⟨hl, hne, hbL⟩
  refine KSpl.split1 X.F N hy (fun D l h' k e1 _ F' N' hlt => ?_) hsz
  have hD := N' _ (.head _)
  have hDL : D ≠ L := fun q => by
    have := hlt (L, { oL with slots := sl }) (List.mem_append_right _ (.head _))
    exact Nat.lt_irrefl _ (q ▸ this)
  have keep : ∀ b o, b ≠ L → b ≠ L' → s.heap.get? b = some o → h'.get? b = some o := fun b o h1 h2 e => by
    cases hq : hb.get? b with
    | some o' =>
      have := X.F.keep b o' hq
      rw [e] at this; cases this
      exact F'.keep b o hq
    | none => exact (N' (b, o) (.tail _ (List.mem_append_left _ (mem_others.mpr ⟨h1, h2, hq, e⟩)))).1
  have law' : LawFr hb h' L L' oL := ⟨⟨sl, (N' (L, { oL with slots := sl }) (.tail _ (List.mem_append_right _ (.head _)))).1⟩, hbL, hne⟩
  refine h D l h' k e1 (X.step (s' := { s with heap := h', toks := k }) hL' F' law' keep rfl rfl) hD.1 ?_ hDL hD.2.1 hD.2.2
  cases hq : s₀.heap.get? D with
  | none => rfl
  | some o =>
    have e := X.keep D o hDL hq
    have := hlt (D, o) (List.mem_append_left _ (mem_others.mpr ⟨hDL, hD.2.1, hD.2.2, e⟩))
    exact absurd this (Nat.lt_irrefl _)
theorem split_meth {M : Model} {x : Str} {t : Tok} {pl : Sem Bool} {Q : Value × List Value → Shared → Prop} (h : Q (.builtin "str.split", [.str x t]) s) : wpAny M A (getMethod (.str x t) "split" pl) Q E s :=
  getMethod_builtin (typeIs_str _ _ _) PySem.F.plainAttrs_str PySem.F.slot_str_split PySem.F.type_str_split (fun _ e => nomatch e) h
end
end Mine
end
section
open PySem PySem.W PyProof.Rows PySem.Calls
set_option maxRecDepth 100000
set_option maxHeartbeats 4000000
namespace Mine
def ltS (a b : Str) : Bool := decide (a.cps.toList < b.cps.toList)
def saR (r : Str) : Str := if ltS r "5" then r else match PySem.intText? ((Txt.split r ".").headD "") with
  | some n => Txt.join "." (Str.ofString (toString (n - 3)) :: (Txt.split r ".").tail)
  | none => r
def saK (k r : Str) : Str := if k == ("SunOS" : Str) then (if ltS r "5" then k else "Solaris") else if k = "win32" ∨ k = "win16" then "Windows" else k

def Is (m : Str → Option Value) (x y : Str) : Prop := ∃ u, m x = some (.str y u)
theorem rd_strs {ok : Addr → Prop} {h : Heap} : ∀ l : List (Str × Tok), RdAll ok h (strValues l) ((l.map (·.1)).map PyData.str)
  | [] => .nil
  | p :: l => .cons (.str _ _) (rd_strs l)
theorem sa_spec {prog : Program} {w : World} {A : Around} {s : Shared} {mg mb : Str → Option Value} {E : Value → Shared → Prop} {Q : Value → Shared → Prop} {hb : Heap} {L : Addr} {oL : Obj} {envL : Env} {k r v : Str} {t1 t2 t3 : Tok}
    (G : Gd w mg mb hb) (hk : ∀ b o, hb.get? b = some o → s.heap.get? b = some o) (hbL : hb.get? L = none) (hbs : hb.objs.size ≤ s.heap.objs.size)
    (hL : ∃ sl, s.heap.get? L = some { oL with slots := sl }) (eL : EnvL envL L oL) (hfr : A.frames = some [envL]) (hd : A.depth < 500) (hh : A.handled = none)
    (hx : r.length ≤ 600) (hhd : ((Txt.split r ".").headD "").length ≤ 600 ∧ ∀ c ∈ ((Txt.split r ".").headD "").cps.toList, c < 16 ^ 8)
    (hn : ∀ n, PySem.intText? ((Txt.split r ".").headD "") = some n → n.natAbs < 5000 ∧ (((Str.ofString (toString (n - 3)) :: (Txt.split r ".").tail)).map (·.length)).sum + (Txt.split r ".").tail.length + 1 ≤ 1048576)
    (hsl : (Txt.split r ".").length ≤ 100000)
    (h : ∀ D s', Kp L oL s s' → (∃ n u1 u2 u3, s'.heap.get? D = some { cls := .type "tuple", data := .seq #[.str (saK k r) u1, .str (if k == ("SunOS" : Str) then saR r else r) u2, .str v u3] n }) → Q (.ref D) s') :
    wpC (model prog w) A (call (.ref 59) [.str k t1, .str r t2, .str v t3]) Q E s := by
  have M := G.nm
  refine enterC (G.keeps hk) rfl rfl (by unfold recursionLimit; omega) (BindsTo.of_eq rfl) (locs rfl) ?_
  intro h₁ F₀
  obtain ⟨sl, hL⟩ := hL
  have hL0 : s.heap.get? s.heap.objs.size = none := Heap.get?_none_of_le (Nat.le_refl _)
  have F : Fr hb s.heap.objs.size h₁ _ := ⟨F₀.ns, fun b o e => F₀.keep b o (hk b o e), hbs⟩
  have X : Ps s hb L s.heap.objs.size oL _ { s with heap := h₁ } := ⟨F, ⟨⟨sl, F₀.keep _ _ hL⟩, hbL, Nat.ne_of_lt (Heap.lt_size hL)⟩, fun b o _ e => F₀.keep b o e, rfl, rfl⟩
  refine wpC_execs_cons ?_
  refine wpC_mono (Q := fun f s' => (f = .next ∧ ∃ m, Ps s hb L s.heap.objs.size oL m s' ∧ Is m "system" (saK k r) ∧ Is m "release" (if k == ("SunOS" : Str) then saR r else r) ∧ Is m "version" v) ∨
    (∃ D, f = .ret (.ref D) ∧ Q (.ref D) s')) (E := fun _ _ => False) ?_ ?_ (fun _ _ e => e)
  · refine wpC_If ?_
    refine wpAny_isTrue_Compare1 ?_
    refine ld F rfl ?_
    refine wpAny_Constant_str ?_
    refine PyProof.Rows.eq_str ?_
    refine wpAny_truthy_bool ?_
    cases hks : (k == ("SunOS" : Str)) with
    | false =>
      simp only [Bool.false_eq_true, if_false]
      refine wpC_of ?_
      refine wpAny_execs_cons ?_
      refine wpAny_If ?_
      refine wpAny_isTrue_Compare1 ?_
      refine ld F rfl ?_
      refine Tuple_ ?_
      refine wpAny_items_cons ?_
      refine wpAny_Constant_str ?_
      refine wpAny_items_cons ?_
      refine wpAny_Constant_str ?_
      refine wpAny_items_nil ?_
      refine wpAny_newTuple ?_
      refine in_tuple_strs (ys := ["win32", "win16"]) ⟨_, Heap.get?_push_size _ rfl, rfl, _, rfl⟩ (.cons _ _ (.cons _ _ .nil)) ?_
      refine wpAny_truthy_bool ?_
      by_cases hw : k = "win32" ∨ k = "win16"
      · have e0 : (["win32", "win16"] : List Str).any (· == k) = true := by rcases hw with rfl | rfl <;> decide
        have e1 : saK k r = "Windows" := by unfold saK; rw [hks, if_neg Bool.false_ne_true, if_pos hw]
        rw [e0]
        simp only [if_true]
        refine wpAny_execs_cons ?_
        refine wpAny_Assign_Name ?_
        refine wpAny_Constant_str ?_
        refine stS (F.push _) ?_
        intro h₂ tk₂ hs₂ F₂
        refine wpAny_execs_nil ?_
        refine wpAny_execs_nil ?_
        refine .inl ⟨rfl, _, (X.push _).set hL0 F₂ hs₂, ?_, ?_, ?_⟩
        · rw [e1]; exact ⟨_, rfl⟩
        · exact ⟨_, rfl⟩
        · exact ⟨_, rfl⟩
      · have e0 : (["win32", "win16"] : List Str).any (· == k) = false := by
          rw [not_or] at hw
          simp only [List.any_cons, List.any_nil, Bool.or_false, Bool.or_eq_false_iff, beq_eq_false_iff_ne]
          exact ⟨fun e => hw.1 e.symm, fun e => hw.2 e.symm⟩
        have e1 : saK k r = k := by unfold saK; rw [hks, if_neg Bool.false_ne_true, if_neg hw]
        rw [e0]
        simp only [Bool.false_eq_true, if_false]
        refine wpAny_execs_nil ?_
        refine wpAny_execs_nil ?_
        refine .inl ⟨rfl, _, (X.push _).tok _, ?_, ?_, ?_⟩
        · rw [e1]; exact ⟨_, rfl⟩
        · exact ⟨_, rfl⟩
        · exact ⟨_, rfl⟩
    | true =>
      simp only [if_true]
      refine wpC_execs_cons ?_
      refine wpC_If ?_
      refine wpAny_isTrue_Compare1 ?_
      refine ld F rfl ?_
      refine wpAny_Constant_str ?_
      refine P.lt_str ?_
      refine wpAny_truthy_bool ?_
      cases hlt : ltS r "5" with
      | true =>
        have e0 : decide (r.cps.toList < (Str.ofString "5").cps.toList) = true := hlt
        have e1 : saK k r = k := by unfold saK; rw [hks, hlt]; rfl
        have e2 : saR r = r := by unfold saR; rw [hlt]; rfl
        rw [e0]
        simp only [if_true]
        refine wpC_of ?_
        refine wpAny_execs_cons ?_
        refine wpAny_Return_some ?_
        refine Tuple_ ?_
        refine wpAny_items_cons ?_
        refine ld F rfl ?_
        refine wpAny_items_cons ?_
        refine ld F rfl ?_
        refine wpAny_items_cons ?_
        refine ld F rfl ?_
        refine wpAny_items_nil ?_
        refine wpAny_newTuple ?_
        refine .inr ⟨_, rfl, h _ _ ((X.push _).tok _).kp ⟨0, t1, t2, t3, ?_⟩⟩
        rw [e1, hks, if_pos rfl, e2]
        exact Heap.get?_push_size _ rfl
      | false =>
        have e0 : decide (r.cps.toList < (Str.ofString "5").cps.toList) = false := hlt
        have e1 : saK k r = "Solaris" := by unfold saK; rw [hks, hlt]; rfl
        have e2 : saR r = match PySem.intText? ((Txt.split r ".").headD "") with | some n => Txt.join "." (Str.ofString (toString (n - 3)) :: (Txt.split r ".").tail) | none => r := by unfold saR; rw [hlt]; rfl
        rw [e0]
        simp only [Bool.false_eq_true, if_false]
        refine wpC_of ?_
        refine wpAny_execs_nil ?_
        refine wpC_execs_cons ?_
        refine wpC_of ?_
        refine wpAny_Assign_Name ?_
        refine MethodCall_ ?_
        refine ld F rfl ?_
        with_reducible refine split_meth ?_
        refine callWith_method1 ?_
        refine args_cons ?_
        refine wpAny_Constant_str ?_
        refine args_nil ?_
        refine split_new (X.tok _) hL0 ⟨_, hL⟩ (by decide) ?_ (by rw [sizeLine_eq]; omega)
        intro D l h₂ k₂ el X₂ hD h0 hDL hDL' hbD
        refine stS X₂.F ?_
        intro h₃ tk₃ hs₃ F₃
        have X₃ := X₂.set (tk := tk₃) hL0 F₃ hs₃
        have hD₃ := (hs₃.2 D hDL').trans hD
        refine wpC_execs_cons ?_
        refine wpC_mono (Q := fun f s' => f = .next ∧ ∃ m, Ps s hb L s.heap.objs.size oL m s' ∧ Is m "system" k ∧ Is m "release" (saR r) ∧ Is m "version" v) (E := fun _ _ => False) ?_ ?_ (fun _ _ e => e)
        · refine wpC_If ?_
          refine wpAny_isTrue_value ?_
          refine ld F₃ rfl ?_
          refine wpAny_truthy_list ⟨_, hD₃, rfl, _, rfl⟩ ?_ ?_
          · have := congrArg List.length el
            simp [strValues] at this ⊢
            omega
          cases l with
          | nil =>
            have e3 : saR r = r := by
              have e4 : PySem.intText? (Str.ofString "") = none := by decide +kernel
              have e5 : (Txt.split r ".").headD "" = Str.ofString "" := by rw [← el]; rfl
              refine e2.trans ?_
              generalize (Txt.split r ".").headD "" = y at e5
              subst e5
              generalize PySem.intText? (Str.ofString "") = z at e4
              subst e4
              rfl
            refine wpC_of ?_
            refine wpAny_execs_nil ?_
            refine ⟨rfl, _, X₃.tok _, ?_, ?_, ?_⟩
            · exact ⟨_, rfl⟩
            · rw [e3]; exact ⟨_, rfl⟩
            · exact ⟨_, rfl⟩
          | cons q l =>
            obtain ⟨p0, tp⟩ := q
            have ehd : (Txt.split r ".").headD "" = p0 := by rw [← el]; rfl
            have etl : (Txt.split r ".").tail = l.map (·.1) := by rw [← el]; rfl
            rw [ehd, etl] at hn e2
            rw [ehd] at hhd
            refine wpC_execs_cons ?_
            refine wpC_mono (Q := fun f s' => f = .next ∧ ∃ m, Ps s hb L s.heap.objs.size oL m s' ∧ Is m "system" k ∧ Is m "release" (saR r) ∧ Is m "version" v) (E := fun _ _ => False) ?_ ?_ (fun _ _ e => e)
            · refine tryVEC hfr eL G ?_
              refine wpC_execs_cons ?_
              refine wpC_Assign_Name ?_
              refine CallC ?_
              refine ld_builtin_at F₃ G.T.g M.gint G.T.b M.bint ?_
              refine callIntDC ?_
              refine args_cons ?_
              refine PyProof.Rows.Subscript_ ?_
              refine ld F₃ rfl ?_
              refine wpAny_Constant_int ?_
              refine itemL (ok := Every) (ds := (((p0, tp) :: l).map (·.1)).map PyData.str) (i := 0) (.list trivial hD₃ rfl rfl (rd_strs ((p0, tp) :: l))) (by decide) rfl fun z rz => ?_
              obtain ⟨tz, rfl⟩ := rz.isStr
              refine args_nil ?_
              cases hit : PySem.intText? p0 with
              | some n =>
                obtain ⟨hn1, hn2⟩ := hn n hit
                rw [hit] at e2
                refine wpC_of ?_
                refine KIN.call_text hit (Nat.le_trans hhd.1 (by decide)) ?_
                refine stS F₃ ?_
                intro h₄ tk₄ hs₄ F₄
                have X₄ := X₃.set (tk := tk₄) hL0 F₄ hs₄
                have hD₄ := (hs₄.2 D hDL').trans hD₃
                refine wpC_of ?_
                refine wpAny_execs_nil ?_
                refine wpAny_execs_cons ?_
                refine wpAny_Assign_Name ?_
                refine wpAny_BinOp ?_
                refine ld F₄ rfl ?_
                refine wpAny_Constant_int ?_
                refine PyProof.Rows.sub_int' ?_
                refine stS F₄ ?_
                intro h₅ tk₅ hs₅ F₅
                have X₅ := X₄.set (tk := tk₅) hL0 F₅ hs₅
                have hD₅ := (hs₅.2 D hDL').trans hD₄
                refine wpAny_execs_cons ?_
                refine wpAny_Assign_Subscript ?_
                refine Call_ ?_
                refine ld_builtin_at F₅ G.T.g M.gstr G.T.b M.bstr ?_
                refine PyProof.Rows.callWith_type1 ?_
                refine args_cons ?_
                refine ld F₅ rfl ?_
                refine args_nil ?_
                refine P.str_of_int (log2_small (by omega)) ?_
                refine ld F₅ rfl ?_
                refine wpAny_Constant_int ?_
                refine wpAny_setItem_list ⟨_, hD₅, rfl, _, rfl⟩ (by decide) (by decide) (by simp [strValues]) ?_
                intro h₆ hl₆ hs₆
                have X₆ := X₅.change hs₆ h0 hbD hDL hDL'
                refine wpAny_execs_cons ?_
                refine wpAny_Assign_Name ?_
                refine MethodCall_ ?_
                refine wpAny_Constant_str ?_
                with_reducible refine GM.join ?_
                refine callWith_method1 ?_
                refine args_cons ?_
                refine ld X₆.F rfl ?_
                refine args_nil ?_
                refine SC.join (l := (Str.ofString (toString (n - 3)), _) :: l) hl₆ rfl (joinOk_of_weight (by simp at hn2 ⊢; omega) (by decide)) fun t' k' => ?_
                refine stS X₆.F ?_
                intro h₇ tk₇ hs₇ F₇
                have X₇ := X₆.set (tk := tk₇) hL0 F₇ hs₇
                refine wpAny_execs_nil ?_
                refine ⟨rfl, _, X₇, ⟨_, rfl⟩, ?_, ⟨_, rfl⟩⟩
                rw [e2]; exact ⟨_, rfl⟩
              | none =>
                rw [hit] at e2
                refine int1_bad hit (Nat.le_trans hhd.1 (by decide)) hhd.2 hh ?_
                intro hx tkx ea hnew
                refine ⟨ea, h₃, _, rfl, hnew, F₃, X₃.law, fun h₄ F₄ hk₄ law₄ => ?_⟩
                have X₄ := X₃.step (s' := { s with heap := h₄ }) hL0 F₄ law₄ hk₄ rfl rfl
                refine wpAny_execs_cons ?_
                refine wpAny_Pass ?_
                refine wpAny_execs_nil ?_
                refine ⟨rfl, _, X₄.tok _, ⟨_, rfl⟩, ?_, ⟨_, rfl⟩⟩
                rw [e2]; exact ⟨_, rfl⟩
            · rintro f s' ⟨rfl, hq⟩
              refine wpC_of ?_
              refine wpAny_execs_nil ?_
              exact ⟨rfl, hq⟩
        · rintro f s' ⟨rfl, m', X', ⟨u1, hm1⟩, ⟨u2, hm2⟩, ⟨u3, hm3⟩⟩
          refine wpC_execs_cons ?_
          refine wpC_of ?_
          refine wpAny_If ?_
          refine wpAny_isTrue_Compare1 ?_
          refine ld X'.F hm2 ?_
          refine wpAny_Constant_str ?_
          refine P.lt_str ?_
          refine wpAny_truthy_bool ?_
          split
          all_goals
            refine wpAny_execs_cons ?_
            refine wpAny_Assign_Name ?_
            refine wpAny_Constant_str ?_
            refine stS X'.F ?_
            intro h₄ tk₄ hs₄ F₄
            refine wpAny_execs_nil ?_
            refine wpC_of ?_
            refine wpAny_execs_nil ?_
            refine .inl ⟨rfl, _, X'.set hL0 F₄ hs₄, ?_, ?_, ?_⟩
            · rw [e1]; exact ⟨_, rfl⟩
            · exact ⟨u2, (if_neg (by decide)).trans hm2⟩
            · exact ⟨u3, (if_neg (by decide)).trans hm3⟩
  · rintro f s' (⟨rfl, m', X', ⟨u1, hm1⟩, ⟨u2, hm2⟩, ⟨u3, hm3⟩⟩ | ⟨D, rfl, hq⟩)
    · refine wpC_execs_cons ?_
      refine wpC_of ?_
      refine wpAny_Return_some ?_
      refine Tuple_ ?_
      refine wpAny_items_cons ?_
      refine ld X'.F hm1 ?_
      refine wpAny_items_cons ?_
      refine ld X'.F hm2 ?_
      refine wpAny_items_cons ?_
      refine ld X'.F hm3 ?_
      refine wpAny_items_nil ?_
      refine wpAny_newTuple ?_
      exact h _ _ (X'.push _).kp ⟨_, u1, u2, u3, Heap.get?_push_size _ rfl⟩
    · exact hq
end Mine
end
section
open PySem PySem.W PyProof.Rows PySem.Calls
set_option maxRecDepth 100000
set_option maxHeartbeats 400000
namespace Mine
theorem slot_map_next : Slot "map" "__next__" "map.__next__" :=
  .of (owner := "map") (n := "__next__") (by rw [typeLookup_type, builtinLookup_eq_fast]; kernel_rfl) (by decide +kernel) (by decide +kernel) (by decide +kernel)
    (by first | exact .inl (by decide +kernel) | exact .inr (by decide +kernel)) (by rw [isSubtype_type]; kernel_rfl)
theorem slot_map_iter : Slot "map" "__iter__" "map.__iter__" :=
  .of (owner := "map") (n := "__iter__") (by rw [typeLookup_type, builtinLookup_eq_fast]; kernel_rfl) (by decide +kernel) (by decide +kernel) (by decide +kernel)
    (by first | exact .inl (by decide +kernel) | exact .inr (by decide +kernel)) (by rw [isSubtype_type]; kernel_rfl)
theorem slot_map_init : Slot "map" "__init__" "object.__init__" :=
  .of (owner := "object") (n := "__init__") (by rw [typeLookup_type, builtinLookup_eq_fast]; kernel_rfl) (by decide +kernel) (by decide +kernel) (by decide +kernel)
    (by first | exact .inl (by decide +kernel) | exact .inr (by decide +kernel)) (by rw [isSubtype_type]; kernel_rfl)
theorem entry_map_next : entryFor table "map.__next__" = some Builtin.«map.__next__» := entryFor_of_tree (by kernel_rfl)
theorem entry_map_iter : entryFor table "map.__iter__" = some Builtin.«dict_keyiterator.__iter__» :=
  entryFor_alias (id' := "dict_keyiterator.__iter__") (by rw [fastTable_eq_tree]; kernel_rfl) rfl (by decide +kernel) (by rw [fastTable_eq_tree]; kernel_rfl)
theorem entry_map_new : entryFor table "map.__new__" = some Builtin.«map.__new__» := entryFor_of_tree (by kernel_rfl)
theorem args_map_next (a : Value) : argsOk "map.__next__" ⟨[a], []⟩ := by unfold argsOk; kernel_rfl
theorem args_map_iter (a : Value) : argsOk "map.__iter__" ⟨[a], []⟩ := by unfold argsOk; kernel_rfl
theorem mro_map : mroOf (.type "map") = pure [.type "map", .type "object"] := by rw [mroOf_type]; kernel_rfl
theorem lookup_map_new : typeLookup (.type "map") "__new__" = pure (some (.builtin "map.__new__")) := by rw [typeLookup_type, builtinLookup_eq_fast]; kernel_rfl
theorem sub_map : isSubtype (.type "map") (.type "map") = pure true := by rw [isSubtype_type]; kernel_rfl
theorem called_map : TypeCalled "map" "map.__new__" "object.__init__" :=
  ⟨by decide +kernel, by decide +kernel, ⟨_, _, mro_map⟩, madeBy_type mro_map lookup_map_new (by decide +kernel), by decide +kernel, sub_map, slot_map_init⟩
theorem typeCall_map (a b : Value) : checkTypeCall "map" ⟨[a, b], []⟩ = pure () := by kernel_rfl
theorem newCall_map (a b : Value) : checkBuiltinCall "map.__new__" ⟨[.type "map", a, b], []⟩ = pure () := by kernel_rfl
theorem map_no_len : typeLookup (.type "map") "__len__" = pure none := by rw [typeLookup_type, builtinLookup_eq_fast]; kernel_rfl
theorem map_no_hint : typeLookup (.type "map") "__length_hint__" = pure none := by rw [typeLookup_type, builtinLookup_eq_fast]; kernel_rfl

abbrev mapObj (T : Addr) (f : Value) : Obj := { cls := .type "map", data := .fields #[.ref T, f] }
abbrev tupOf (vs : Array Value) : Obj := { cls := .type "tuple", data := .seq vs }

section
variable {prog : Program} {w : World} {M : Model} {A : Around} {E : Value → Shared → Prop} {s : Shared}
theorem callSpecialC {self : Value} {T : String} {name : Str} {id : String} {args : List Value} {kw : List (Str × Value)}
    {Q : Option Value → Shared → Prop} (hT : s.TypeIs self T) (h : Slot T name id)
    (hc : wpC M A (call (.builtin id) (self :: args) kw) (fun v => Q (some v)) E s) : wpC M A (callSpecial? self name args kw) Q E s := by
  simp only [callSpecial?]
  refine wpC_any (wpAny_specialOf hT h.lookup ?_)
  simp only [h.bind]
  exact wpC_holding (wpC_bind (wpC_pure (wpC_bind (wpC_mono hc (fun v s' h' => wpC_pure h') fun _ _ h' => h'))))
theorem callEntryC {T : String} {name : Str} {id : String} {b : Builtin} {self : Value} {rest : List Value} {Q : Value → Shared → Prop} (slot : Slot T name id) (hT : s.TypeIs self T)
    (hb : entryFor table id = some b) (ha : argsOk id ⟨self :: rest, []⟩)
    (h : wpC (model prog w) A.in1 (b ⟨self :: rest, []⟩) (fun fin s' => match fin with | .done f => (wants Q E) (.ok f) s' | .again c' => c'.quiet = true ∧ codeC (model prog w) A c' (wants Q E) s') E s) :
    wpC (model prog w) A (call (.builtin id) (self :: rest)) Q E s := by
  refine wpC_call (codeC_of_tree ?_)
  show wpC _ A.in1 (do checkBuiltinCall id ⟨self :: rest, []⟩; again (.builtin id ⟨self :: rest, []⟩)) _ _ s
  refine wpC_any (slot.check _ _ _ _ _ _ _ _ hT ha ?_)
  refine wpC_pure ⟨plainId_quiet slot.plain _, codeC_builtin hb ?_⟩
  rw [Around.under_plainId slot.plain _]
  exact h

theorem nextOfC {it : Value} {T id : String} {Q : Value → Shared → Prop} (hT : s.TypeIs it T) (slot : Slot T "__next__" id) (h : wpC M A (call (.builtin id) [it]) Q E s) : wpC M A (Builtin.SmallTypes.nextOf it) Q E s := by
  unfold Builtin.SmallTypes.nextOf
  exact wpC_bind (callSpecialC hT slot (wpC_mono h (fun v s' h' => wpC_pure h') fun _ _ e => e))

theorem mapNextC {I T : Addr} {it f : Value} {Q : Value → Shared → Prop} (hI : s.heap.get? I = some (mapObj T f)) (hT : s.heap.get? T = some (tupOf #[it]))
    (h : wpC (model prog w) A.in1 (Builtin.SmallTypes.nextOf it) (fun v s₁ => s₁.heap.get? I = some (mapObj T f) ∧ wpC (model prog w) A.in1 (call f [v]) Q E s₁) E s) :
    wpC (model prog w) A (call (.builtin "map.__next__") [.ref I]) Q E s := by
  refine callEntryC slot_map_next ⟨_, hI, rfl⟩ entry_map_next (args_map_next _) ?_
  unfold Builtin.«map.__next__»
  refine wpC_bind ?_
  refine wpC_of_eq (a := (.ref I, [])) rfl ?_
  dsimp only
  refine wpC_any (wpAny_field hI rfl (x := .ref T) rfl ?_)
  refine wpC_any (wpAny_seqItems hT rfl ?_)
  dsimp only
  refine wpC_bind ?_
  have e : ∀ (g : Value → Array Value → Sem (ForInStep (Array Value))), (forIn #[it] (#[] : Array Value) g : Sem (Array Value)) = (do match ← g it #[] with | .done b => pure b | .yield b => pure b) := fun g => by
    rw [← Array.forIn_toList]
    show (forIn [it] #[] g : Sem (Array Value)) = _
    rw [List.forIn_cons]
    congr 1
    funext x
    cases x <;> rfl
  rw [e]
  refine wpC_bind ?_
  refine wpC_bind ?_
  refine wpC_holding ?_
  refine wpC_mono h ?_ fun _ _ e => e
  rintro v s₁ ⟨hI₁, hc⟩
  refine wpC_pure ?_
  refine wpC_pure ?_
  refine wpC_any (wpAny_field hI₁ rfl (x := f) rfl ?_)
  refine wpC_bind ?_
  refine wpC_holding ?_
  refine wpC_mono hc ?_ fun _ _ e => e
  intro r s₂ hr
  refine wpC_any (wpAny_letGo ?_)
  exact wpC_pure hr
theorem pyIter_map {I T : Addr} {f : Value} {Q : Value → Shared → Prop} (hI : s.heap.get? I = some (mapObj T f)) (h : Q (.ref I) s) : wpAny (model prog w) A (pyIter (.ref I)) Q E s := by
  have hT : s.TypeIs (.ref I) "map" := ⟨_, hI, rfl⟩
  refine wpAny_pyIter_slot hT slot_map_iter (wpAny_call_entry slot_map_iter hT entry_map_iter ?_ (args_map_iter _))
  show wpAny _ _ (ret (.ref I)) _ _ s
  exact wpAny_pure ⟨_, rfl, "map", _, hT, slot_map_next.lookup, h⟩
theorem forIn1 {it : Value} {g : Value → Array Value → Sem (ForInStep (Array Value))} : (forIn [it] (#[] : Array Value) g : Sem (Array Value)) = (do match ← g it #[] with | .done b => pure b | .yield b => pure b) := by
  rw [List.forIn_cons]
  congr 1
  funext x
  cases x <;> rfl
theorem mapNew {f v : Value} {P : Around → (Value → Shared → Prop) → Shared → Prop}
    (hp : ∀ (prog : Program) (w : World) (A : Around) (E : Value → Shared → Prop) (Q : Value → Shared → Prop) (s : Shared), P A Q s → wpAny (model prog w) A (pyIter v) Q E s) :
    Meets (Builtin.«map.__new__» ⟨[.type "map", f, v], []⟩) (fun A R s => P A.in1 (fun it s₁ => R (.ok (.ret (.ref (s₁.heap.objs.size + 1)))) { s₁ with heap := (s₁.heap.push (tupOf #[it])).push (mapObj s₁.heap.objs.size f) }) s) := by
  refine Meets.of_wp fun prog w A R s hs => ?_
  unfold Builtin.«map.__new__» Builtin.SmallTypes.newClass
  refine wpAny_bind ?_
  refine wpAny_bind ?_
  refine wpAny_of_eq (a := true) rfl ?_
  refine wpAny_ite_neg' (by decide) ?_
  refine wpAny_bind ?_
  refine wpAny_of_eq sub_map ?_
  refine wpAny_ite_neg' (by decide) ?_
  refine wpAny_pure ?_
  dsimp only
  refine wpAny_bind ?_
  refine wpAny_of_eq (a := ()) rfl ?_
  refine wpAny_ite_neg' (by simp) ?_
  refine wpAny_bind ?_
  unfold Builtin.SmallTypes.iterAll
  dsimp only [List.drop]
  refine wpAny_bind ?_
  rw [forIn1]
  refine wpAny_bind ?_
  refine wpAny_bind ?_
  refine wpAny_holding ?_
  refine wpAny_mono (hp _ _ _ _ _ _ hs) ?_ fun _ _ e => e
  intro it s₁ hr
  refine wpAny_pure ?_
  refine wpAny_pure ?_
  refine wpAny_pure ?_
  refine wpAny_bind ?_
  unfold newTuple
  refine wpAny_newObj_type ?_ (by simp; size_fits)
  refine wpAny_bind ?_
  unfold Builtin.SmallTypes.newRecord
  refine wpAny_newObj_type ?_ (by simp; size_fits)
  refine wpAny_pure ⟨_, rfl, ?_⟩
  have e : (s₁.heap.push (tupOf #[it])).objs.size = s₁.heap.objs.size + 1 := Heap.size_push _ _
  rw [← e] at hr
  exact hr
/-- map(f, l) of a list -/
theorem mapList {f : Value} {l : Addr} {items : Array Value} {Q : Value → Shared → Prop} (hl : s.heap.IsList l items)
    (h : Q (.ref (s.heap.objs.size + 2)) { s with heap := ((s.heap.push { cls := .type "list_iterator", data := .fields #[.ref l, .int 0 0] }).push (tupOf #[.ref s.heap.objs.size])).push (mapObj (s.heap.objs.size + 1) f) }) :
    wpAny (model prog w) A (call (.type "map") [f, .ref l]) Q E s := by
  refine callType_new called_map (by decide) (typeCall_map _ _) (newCall_map _ _) (fun obj => PySem.F.args_object_init_3 obj _ _) entry_map_new
    (mapNew (P := fun _ Q s => s.heap.IsList l items ∧ Q (.ref s.heap.objs.size) { s with heap := s.heap.push { cls := .type "list_iterator", data := .fields #[.ref l, .int 0 0] } }) fun _ _ _ _ _ _ hp => wpAny_pyIter_list hp.1 hp.2) ⟨hl, ?_⟩
  have e : (s.heap.push { cls := .type "list_iterator", data := .fields #[.ref l, .int 0 0] }).objs.size = s.heap.objs.size + 1 := Heap.size_push _ _
  dsimp only
  rw [e]
  refine ⟨⟨mapObj (s.heap.objs.size + 1) f, ?_, rfl⟩, h⟩
  have e2 := Heap.get?_push_size ((s.heap.push { cls := .type "list_iterator", data := .fields #[.ref l, .int 0 0] }).push (tupOf #[.ref s.heap.objs.size])) (o := mapObj (s.heap.objs.size + 1) f) rfl
  rw [Heap.size_push, Heap.size_push] at e2
  exact e2
/-- map(f, m) of a map -/
theorem mapMap {f : Value} {I T : Addr} {g : Value} {Q : Value → Shared → Prop} (hI : s.heap.get? I = some (mapObj T g))
    (h : Q (.ref (s.heap.objs.size + 1)) { s with heap := (s.heap.push (tupOf #[.ref I])).push (mapObj s.heap.objs.size f) }) :
    wpAny (model prog w) A (call (.type "map") [f, .ref I]) Q E s := by
  refine callType_new called_map (by decide) (typeCall_map _ _) (newCall_map _ _) (fun obj => PySem.F.args_object_init_3 obj _ _) entry_map_new
    (mapNew (P := fun _ Q s => s.heap.get? I = some (mapObj T g) ∧ Q (.ref I) s) fun _ _ _ _ _ _ hp => pyIter_map hp.1 hp.2) ⟨hI, ?_⟩
  refine ⟨⟨mapObj s.heap.objs.size f, ?_, rfl⟩, h⟩
  have e2 := Heap.get?_push_size (s.heap.push (tupOf #[.ref I])) (o := mapObj s.heap.objs.size f) rfl
  rw [Heap.size_push] at e2
  exact e2
end
end Mine
end
section
open PySem PySem.W PyProof.Rows PySem.Calls
set_option maxRecDepth 100000
set_option maxHeartbeats 400000
namespace Mine
section
variable {prog : Program} {w : World} {A : Around} {E : Value → Shared → Prop} {s : Shared} {it l : Addr} {i : Nat} {items : Array Value}
theorem li_item {x : Value} {Q : Value → Shared → Prop} (hit : s.heap.IsListIter it l i) (hl : s.heap.IsList l items) (hx : items[i]? = some x)
    (hQ : ∀ h', h'.IsListIter it l (i + 1) → Heap.SameBut it s.heap h' → Q x { s with heap := h' }) : wpAny (model prog w) A (call (.builtin "list_iterator.__next__") [.ref it]) Q E s := by
  obtain ⟨o, ho, hc, hd⟩ := id hit
  obtain ⟨ol, hol, _, nl, hdl⟩ := hl
  refine wpAny_call_entry slot_listiter_next hit.typeIs entry_listiter_next ?_ (args_listiter_next _)
  show wpAny _ _ (field (.ref it) 0 >>= _) _ _ s
  refine wpAny_bind (wpAny_field ho hd (x := .ref l) rfl ?_)
  show wpAny _ _ (if (Value.ref l == Value.none) = true then _ else _) _ _ s
  rw [if_neg (show ¬ ((Value.ref l == Value.none) = true) from Bool.false_ne_true)]
  show wpAny _ _ (field (.ref it) 1 >>= _) _ _ s
  refine wpAny_bind (wpAny_field ho hd (x := .int i 0) rfl ?_)
  show wpAny _ _ (seqItems? (.ref l) >>= _) _ _ s
  refine wpAny_bind (wpAny_seqItems hol hdl ?_)
  simp only [Int.toNat_natCast, hx]
  refine wpAny_bind (wpAny_setField ho hd (by simp) (wpAny_pure ⟨x, rfl, hQ _ ?_ (Heap.SameBut.update ..)⟩))
  exact ⟨_, Heap.get?_update_self _ ho (Obj.isFreed_of_fields (Obj.data_mapFields hd _)), (Obj.cls_mapFields ..).trans hc, by
    rw [Obj.data_mapFields hd]; simp [rawInt]⟩
theorem li_end {Q : Value → Shared → Prop} (hh : A.handled = none) (hit : s.heap.IsListIter it l i) (hl : s.heap.IsList l items) (hx : items[i]? = none)
    (hQ : ∀ e h', Heap.ExtBut it s.heap h' → (∃ o, h'.get? e = some o ∧ o.cls = .type "StopIteration") → E (.ref e) { s with heap := h' }) : wpAny (model prog w) A (call (.builtin "list_iterator.__next__") [.ref it]) Q E s := by
  obtain ⟨o, ho, hc, hd⟩ := id hit
  obtain ⟨ol, hol, _, nl, hdl⟩ := hl
  refine wpAny_call_entry slot_listiter_next hit.typeIs entry_listiter_next ?_ (args_listiter_next _)
  show wpAny _ _ (field (.ref it) 0 >>= _) _ _ s
  refine wpAny_bind (wpAny_field ho hd (x := .ref l) rfl ?_)
  show wpAny _ _ (if (Value.ref l == Value.none) = true then _ else _) _ _ s
  rw [if_neg (show ¬ ((Value.ref l == Value.none) = true) from Bool.false_ne_true)]
  show wpAny _ _ (field (.ref it) 1 >>= _) _ _ s
  refine wpAny_bind (wpAny_field ho hd (x := .int i 0) rfl ?_)
  show wpAny _ _ (seqItems? (.ref l) >>= _) _ _ s
  refine wpAny_bind (wpAny_seqItems hol hdl ?_)
  simp only [Int.toNat_natCast, hx]
  refine wpAny_bind (wpAny_rule (wpAny_bind (wpAny_setField ho hd (by simp) ?_)))
  show wpAny _ _ (newExc (.type "StopIteration") [] >>= _) _ _ _
  refine wpAny_bind ?_
  simp only [newExc, newTuple]
  refine wpAny_bind (wpAny_newObj_type ?_ (by size_fits))
  refine wpAny_bind (m := firstArgMember _ _) (wpAny_of_eq (a := Value.none) (by first | rfl | (simp only [firstArgMember]; rfl)) ?_)
  refine wpAny_newObj_type ?_ (by size_fits)
  simp only [raiseNew]
  refine wpAny_bind (wpAny_handled ?_)
  rw [show A.in1.handled = none from hh]
  refine wpAny_bind (wpAny_pure (wpAny_throw ?_))
  exact hQ _ _ (((Heap.SameBut.update ..).extBut.push _).push _) ⟨_, Heap.get?_push_size _ rfl, rfl⟩
end

/-- two maps over an iterator of a list -/
structure Mp (I2 T2 I1 T1 it l : Addr) (items : Array Value) (i : Nat) (h : Heap) : Prop where
  i2 : h.get? I2 = some (mapObj T2 (.type "str"))
  t2 : h.get? T2 = some (tupOf #[.ref I1])
  i1 : h.get? I1 = some (mapObj T1 (.type "int"))
  t1 : h.get? T1 = some (tupOf #[.ref it])
  ix : h.IsListIter it l i
  lx : h.IsList l items
  n2 : I2 ≠ it
  n3 : T2 ≠ it
  n4 : I1 ≠ it
  n5 : T1 ≠ it
  n6 : l ≠ it
section
variable {prog : Program} {w : World} {A : Around} {E : Value → Shared → Prop} {s : Shared} {I2 T2 I1 T1 it l : Addr} {i : Nat} {items : Array Value}
theorem Mp.next {h h' : Heap} (m : Mp I2 T2 I1 T1 it l items i h) (hi : h'.IsListIter it l (i + 1)) (hs : Heap.SameBut it h h') : Mp I2 T2 I1 T1 it l items (i + 1) h' := by
  obtain ⟨o, a, b⟩ := m.lx
  exact ⟨(hs.2 _ m.n2).trans m.i2, (hs.2 _ m.n3).trans m.t2, (hs.2 _ m.n4).trans m.i1, (hs.2 _ m.n5).trans m.t1, hi, ⟨o, (hs.2 _ m.n6).trans a, b⟩, m.n2, m.n3, m.n4, m.n5, m.n6⟩
theorem Mp.keep {h h' : Heap} (m : Mp I2 T2 I1 T1 it l items i h) (hk : ∀ b o, b = I2 ∨ b = T2 ∨ b = I1 ∨ b = T1 ∨ b = it ∨ b = l → h.get? b = some o → h'.get? b = some o) : Mp I2 T2 I1 T1 it l items i h' := by
  obtain ⟨o, a, b⟩ := m.lx
  obtain ⟨o', a', b'⟩ := m.ix
  exact ⟨hk _ _ (by simp) m.i2, hk _ _ (by simp) m.t2, hk _ _ (by simp) m.i1, hk _ _ (by simp) m.t1, ⟨o', hk _ _ (by simp) a', b'⟩, ⟨o, hk _ _ (by simp) a, b⟩, m.n2, m.n3, m.n4, m.n5, m.n6⟩

theorem isInst_ve {e : Addr} {Q : Bool → Shared → Prop} (hx : ∃ o, s.heap.get? e = some o ∧ o.cls = .type "ValueError") (h : Q false s) : wpAny (model prog w) A (isInstance (.ref e) (.type "StopIteration")) Q E s :=
  wpAny_isInstance (T := "ValueError") (b := false) hx (isSubtype_of_subB (by decide +kernel)) h
/-- the next of the two maps: a number -/
theorem mp_item {x : Str} {t : Tok} {Q : Option Value → Shared → Prop} (m : Mp I2 T2 I1 T1 it l items i s.heap) (hh : A.handled = none) (hx : items[i]? = some (.str x t)) (hl : x.length ≤ 600) (hc : ∀ c ∈ x.cps.toList, c < 16 ^ 8)
    (h1 : ∀ k, PySem.intText? x = some k → k.natAbs < 5000 ∧ ∀ h' tk u, Mp I2 T2 I1 T1 it l items (i + 1) h' → Heap.SameBut it s.heap h' → Q (some (.str (Str.ofString (toString k)) u)) { s with heap := h', toks := tk })
    (h2 : PySem.intText? x = none → ∀ h₁ h' tk e, Mp I2 T2 I1 T1 it l items (i + 1) h₁ → Heap.SameBut it s.heap h₁ → Heap.NewExc h₁ h' e "ValueError" → E (.ref e) { s with heap := h', toks := tk }) :
    wpC (model prog w) A (pyNext (.ref I2)) Q E s := by
  unfold pyNext
  refine wpC_bind ?_
  refine wpC_attempt ?_
  refine callSpecialC (T := "map") ⟨_, m.i2, rfl⟩ slot_map_next ?_
  refine mapNextC m.i2 m.t2 ?_
  refine nextOfC (T := "map") ⟨_, m.i1, rfl⟩ slot_map_next ?_
  refine mapNextC m.i1 m.t1 ?_
  refine nextOfC (T := "list_iterator") m.ix.typeIs slot_listiter_next ?_
  refine wpC_of ?_
  refine li_item m.ix m.lx hx ?_
  intro h₁ hi₁ hs₁
  have m₁ := m.next hi₁ hs₁
  refine ⟨m₁.i1, ?_⟩
  cases hit : PySem.intText? x with
  | some k =>
    obtain ⟨hk, hq⟩ := h1 k hit
    refine wpC_of ?_
    refine KIN.call_text hit (Nat.le_trans hl (by decide)) ?_
    refine ⟨m₁.i2, ?_⟩
    refine wpC_of ?_
    refine P.str_of_int (log2_small (by omega)) ?_
    exact wpC_pure (hq h₁ _ _ m₁ hs₁)
  | none =>
    refine int1_bad hit (Nat.le_trans hl (by decide)) hc hh ?_
    intro hx' tk e hnew
    refine wpC_any (isInst_ve ?_ ?_)
    · obtain ⟨o, t', e1, e2, _⟩ := hnew.there
      exact ⟨o, e1, e2⟩
    · rw [if_neg Bool.false_ne_true]
      exact wpC_of (wpAny_throw (h2 hit h₁ hx' tk e m₁ hs₁ hnew))
theorem mp_end {Q : Option Value → Shared → Prop} (m : Mp I2 T2 I1 T1 it l items i s.heap) (hh : A.handled = none) (hx : items[i]? = none)
    (h : ∀ h', Heap.ExtBut it s.heap h' → Q none { s with heap := h' }) : wpC (model prog w) A (pyNext (.ref I2)) Q E s := by
  unfold pyNext
  refine wpC_bind ?_
  refine wpC_attempt ?_
  refine callSpecialC (T := "map") ⟨_, m.i2, rfl⟩ slot_map_next ?_
  refine mapNextC m.i2 m.t2 ?_
  refine nextOfC (T := "map") ⟨_, m.i1, rfl⟩ slot_map_next ?_
  refine mapNextC m.i1 m.t1 ?_
  refine nextOfC (T := "list_iterator") m.ix.typeIs slot_listiter_next ?_
  refine wpC_of ?_
  refine li_end hh m.ix m.lx hx ?_
  intro e h' hx' he
  refine wpC_any (wpAny_isInstance (T := "StopIteration") (b := true) he isSubtype_stop ?_)
  exact wpC_pure (h h' hx')
end
end Mine
end
section
open PySem PySem.W PyProof.Rows PySem.Calls
set_option maxRecDepth 100000
set_option maxHeartbeats 400000
namespace Mine
/-- all but two stay -/
def Rl (S it : Addr) (h h' : Heap) : Prop := ∀ b o, b ≠ S → b ≠ it → h.get? b = some o → h'.get? b = some o
theorem Rl.refl (S it : Addr) (h : Heap) : Rl S it h h := fun _ _ _ _ e => e
theorem Rl.trans {S it : Addr} {a b c : Heap} (x : Rl S it a b) (y : Rl S it b c) : Rl S it a c := fun p o h1 h2 e => y p o h1 h2 (x p o h1 h2 e)
theorem Rl.same1 {S it : Addr} {h h' : Heap} (hs : Heap.SameBut it h h') : Rl S it h h' := fun b _ _ h2 e => (hs.2 b h2).trans e
theorem Rl.same2 {S it : Addr} {h h' : Heap} (hs : Heap.SameBut S h h') : Rl S it h h' := fun b _ h1 _ e => (hs.2 b h1).trans e
/-- the texts of numbers, newly written -/
def shown (ks : List Int) : List PyData := ks.map fun k => .str (Str.ofString (toString k))
structure Fits (x : Str) : Prop where
  len : x.length ≤ 600
  chars : ∀ c ∈ x.cps.toList, c < 16 ^ 8
  small : ∀ k, PySem.intText? x = some k → k.natAbs < 5000
section
variable {prog : Program} {w : World} {A : Around} {R : Result → Shared → Prop} {I2 T2 I1 T1 it l S : Addr} {xs : List (Str × Tok)} {res : Value}
theorem extLoopC (hS : S ≠ I2 ∧ S ≠ T2 ∧ S ≠ I1 ∧ S ≠ T1 ∧ S ≠ it ∧ S ≠ l) (hh : A.handled = none) (hf : ∀ p ∈ xs, Fits p.1) (hz : xs.length ≤ 100000) :
    ∀ (k i : Nat) (s : Shared) (acc : Array Value) (c : Nat) (ks : List Int), xs.length - i = k → i ≤ xs.length → Mp I2 T2 I1 T1 it l (strValues xs).toArray i s.heap →
      s.heap.get? S = some { cls := .type "list", data := .seq acc c } → (xs.take i).map (fun p => PySem.intText? p.1) = ks.map some → RdAll No s.heap acc.toList (shown ks) →
      (∀ h' tk acc' c' ks', Rl S it s.heap h' → h'.get? S = some { cls := .type "list", data := .seq acc' c' } → xs.map (fun p => PySem.intText? p.1) = ks'.map some → RdAll No h' acc'.toList (shown ks') → R (.ok (.ret res)) { s with heap := h', toks := tk }) →
      ((∃ p ∈ xs, PySem.intText? p.1 = none) → ∀ h₁ h' tk e, Rl S it s.heap h₁ → Heap.NewExc h₁ h' e "ValueError" → R (.error (.ref e)) { s with heap := h', toks := tk }) →
      codeC (model prog w) A (.builtin "list.extend.loop" ⟨[.ref S, .ref I2, res], []⟩) R s := by
  intro k
  induction k with
  | zero =>
    intro i s acc c ks hk hi m hS' he ra hok herr
    have hin : i = xs.length := by omega
    subst hin
    refine codeC_builtin PySem.F.entry_extend_loop ?_
    rw [Around.under_plainId PySem.F.plain_extend_loop _]
    show wpC _ A.in1 (pyNext (.ref I2) >>= _) _ _ s
    refine wpC_bind (mp_end m hh (by simp [strValues]) fun h' hx => ?_)
    refine wpC_pure (hok h' s.toks acc c ks (fun b o _ h2 e => hx b o h2 e) (hx _ _ hS.2.2.2.2.1 hS') (by rw [List.take_length] at he; exact he) ra.atoms)
  | succ k ih =>
    intro i s acc c ks hk hi m hS' he ra hok herr
    have hlt : i < xs.length := by omega
    have hf' := hf xs[i] (List.getElem_mem hlt)
    have hal : acc.size = i := by
      have e1 := ra.length
      have e2 := congrArg List.length he
      rw [Array.length_toList] at e1
      simp [shown] at e1 e2
      omega
    refine codeC_builtin PySem.F.entry_extend_loop ?_
    rw [Around.under_plainId PySem.F.plain_extend_loop _]
    show wpC _ A.in1 (pyNext (.ref I2) >>= _) _ _ s
    refine wpC_bind (mp_item (x := xs[i].1) (t := xs[i].2) m hh (by simp [strValues, hlt]) hf'.len hf'.chars ?_ ?_)
    · intro n hn
      refine ⟨hf'.small n hn, fun h₁ tk u m₁ hs₁ => ?_⟩
      have hS₁ := (hs₁.2 S hS.2.2.2.2.1).trans hS'
      show wpC _ A.in1 (updateSeq S (·.push (.str (Str.ofString (toString n)) u)) >>= _) _ _ _
      refine wpC_any (wpAny_updateSeq hS₁ rfl ?_ (by rw [hal, sizeLine_eq]; omega) (by show (acc.push _).size ≤ _; rw [Array.size_push, hal, sizeLine_eq]; omega))
      refine wpC_pure ⟨plainId_quiet PySem.F.plain_extend_loop _, ?_⟩
      have hs₂ : Heap.SameBut S h₁ (h₁.update S (Obj.mapSeq (·.push (.str (Str.ofString (toString n)) u)))) := Heap.SameBut.update ..
      refine ih (i + 1) _ (acc.push (.str (Str.ofString (toString n)) u)) (if (acc.push (Value.str (Str.ofString (toString n)) u)).size == acc.size then c else c + 1) (ks ++ [n]) (by omega) hlt (m₁.keep fun b o hb e => (hs₂.2 b ?_).trans e) (Heap.get?_update_self _ hS₁ rfl) ?_ ?_ ?_ ?_
      · rcases hb with rfl | rfl | rfl | rfl | rfl | rfl
        · exact hS.1.symm
        · exact hS.2.1.symm
        · exact hS.2.2.1.symm
        · exact hS.2.2.2.1.symm
        · exact hS.2.2.2.2.1.symm
        · exact hS.2.2.2.2.2.symm
      · rw [List.take_succ_eq_append_getElem hlt, List.map_append, he, List.map_append]
        simp [hn]
      · rw [Array.toList_push]
        unfold shown
        rw [List.map_append]
        exact RdAll.append ra.atoms (.cons (.str _ _) .nil)
      · intro h' tk' acc' c' ks' r1 r2 r3 r4
        exact hok h' tk' acc' c' ks' ((Rl.same1 hs₁).trans ((Rl.same2 hs₂).trans r1)) r2 r3 r4
      · intro hex h₃ h' tk' e r1 r2
        exact herr hex h₃ h' tk' e ((Rl.same1 hs₁).trans ((Rl.same2 hs₂).trans r1)) r2
    · intro hn h₁ h' tk e m₁ hs₁ hnew
      exact herr ⟨xs[i], List.getElem_mem hlt, hn⟩ h₁ h' tk e (Rl.same1 hs₁) hnew
end
section
variable {prog : Program} {w : World} {A : Around} {E : Value → Shared → Prop} {s : Shared} {I2 T2 I1 T1 it l : Addr} {xs : List (Str × Tok)}
/-- list(map(str, map(int, l))), the outermost call -/
theorem listMaps {Q : Value → Shared → Prop} (m : Mp I2 T2 I1 T1 it l (strValues xs).toArray 0 s.heap) (hh : A.handled = none) (hf : ∀ p ∈ xs, Fits p.1) (hz : xs.length ≤ 100000)
    (hok : ∀ S h' tk acc' c' ks', s.heap.get? S = none → (∀ b o, b ≠ it → s.heap.get? b = some o → h'.get? b = some o) → h'.get? S = some { cls := .type "list", data := .seq acc' c' } → xs.map (fun p => PySem.intText? p.1) = ks'.map some → RdAll No h' acc'.toList (shown ks') → Q (.ref S) { s with heap := h', toks := tk })
    (herr : (∃ p ∈ xs, PySem.intText? p.1 = none) → ∀ h₁ h' tk e, (∀ b o, b ≠ it → s.heap.get? b = some o → h₁.get? b = some o) → Heap.NewExc h₁ h' e "ValueError" → E (.ref e) { s with heap := h', toks := tk }) :
    wpC (model prog w) A (call (.type "list") [.ref I2]) Q E s := by
  obtain ⟨c, tl, hmro⟩ := PySem.F.called_list.mro
  refine wpC_call (codeC_of_tree ?_)
  show wpC _ _ (callAny (.type "list") _) _ _ _
  refine wpC_pure ⟨Code.quiet_builtin _ (by decide +kernel), codeC_builtin PySem.F.entry_type_call ?_⟩
  rw [Around.under_plain (weight_type_call_type "list" [.ref I2] []) (units_type_call_type "list" [.ref I2] [])]
  unfold Builtin.«type.__call__»
  dsimp only
  have h3 := PySem.F.called_list.notType
  have h4 := PySem.F.called_list.canCreate
  rw [if_neg (by rw [h3]; exact Bool.false_ne_true), if_neg (by rw [h4]; exact Bool.false_ne_true)]
  refine wpC_bind ?_
  refine wpC_of_eq (PySem.F.typeCall_list_1 _) ?_
  refine wpC_bind ?_
  refine wpC_of_eq hmro ?_
  refine wpC_ite_neg (by simp) ?_
  refine wpC_bind ?_
  refine wpC_of_eq PySem.F.called_list.made ?_
  refine wpC_bind ?_
  refine wpC_pure ?_
  refine wpC_any ?_
  refine wpAny_holding ?_
  refine wpAny_call (code_list_new _ ?_)
  have hS : (s.heap.push { cls := .type "list", data := .seq #[] }).get? s.heap.objs.size = some { cls := .type "list", data := .seq #[] } := Heap.get?_push_size _ rfl
  refine wpC_any (wpAny_isInstance (T := "list") ⟨_, hS, rfl⟩ sub_list_self ?_)
  refine wpC_ite_neg (by decide) ?_
  refine wpC_bind ?_
  refine wpC_holding ?_
  refine callSpecialC (name := Str.ofString "__init__") (T := "list") ⟨_, hS, rfl⟩ PySem.F.slot_list_init ?_
  refine callEntryC PySem.F.slot_list_init ⟨_, hS, rfl⟩ PySem.F.entry_list_init (PySem.F.args_list_init_2 _ _) ?_
  generalize hSS : s.heap.objs.size = S at hS ⊢
  have hSn : s.heap.get? S = none := by rw [← hSS]; exact Heap.get?_none_of_le (Nat.le_refl _)
  have ne : ∀ {b o}, s.heap.get? b = some o → S ≠ b := fun {b o} e q => by rw [← q, hSn] at e; cases e
  obtain ⟨ol, hol, _⟩ := id m.lx
  obtain ⟨oi, hoi, _⟩ := id m.ix
  have hne : S ≠ I2 ∧ S ≠ T2 ∧ S ≠ I1 ∧ S ≠ T1 ∧ S ≠ it ∧ S ≠ l := ⟨ne m.i2, ne m.t2, ne m.i1, ne m.t1, ne hoi, ne hol⟩
  have hpu : ∀ b o, s.heap.get? b = some o → (s.heap.push { cls := .type "list", data := .seq #[] }).get? b = some o := fun b o e => Heap.get?_push_of_some _ e
  generalize s.heap.push { cls := .type "list", data := .seq #[] } = H at hS hpu ⊢
  refine wpC_of ?_
  show wpAny _ A.in1.in1 (do let old ← Builtin.List.listItems (.ref S); Builtin.List.listUpdate (.ref S) (fun _ => #[]); letGo old.toList.reverse; Builtin.List.listExtendWith (.ref S) (.ref I2) .none) _ _ _
  refine wpAny_bind ?_
  unfold Builtin.List.listItems
  refine wpAny_bind (wpAny_seqItems hS rfl (wpAny_pure ?_))
  show wpAny _ _ (updateSeq S (fun _ => #[]) >>= fun _ => letGo (#[] : Array Value).toList.reverse >>= fun _ => Builtin.List.listExtendWith (.ref S) (.ref I2) .none) _ _ _
  refine wpAny_bind (wpAny_updateSeq hS rfl ?_)
  have hS₂ := Heap.get?_update_self (Obj.mapSeq (fun _ => (#[] : Array Value))) hS rfl
  have hs₂ : Heap.SameBut S H (H.update S (Obj.mapSeq (fun _ => (#[] : Array Value)))) := Heap.SameBut.update ..
  generalize H.update S (Obj.mapSeq (fun _ => (#[] : Array Value))) = H₂ at hS₂ hs₂ ⊢
  refine wpAny_bind (wpAny_letGo ?_)
  have k₂ : ∀ b o, s.heap.get? b = some o → H₂.get? b = some o := fun b o e => (hs₂.2 b (ne e).symm).trans (hpu b o e)
  have hT : Shared.TypeIs { s with heap := H₂ } (.ref I2) "map" := ⟨_, k₂ _ _ m.i2, rfl⟩
  unfold Builtin.List.listExtendWith
  refine wpAny_bind (wpAny_typeOf hT ?_)
  have h1 : Builtin.List.listSameRef (.ref S) (.ref I2) = false := by simp [Builtin.List.listSameRef, hne.1]
  have h2 : (Value.type "map" == Value.type "list") = false := by decide
  have h5 : (Value.type "map" == Value.type "tuple") = false := by decide
  simp only [h1, h2, h5, Bool.or_false, Bool.false_eq_true, if_false]
  refine wpAny_bind (pyIter_map (k₂ _ _ m.i2) ?_)
  refine wpAny_bind (wpAny_holding ?_)
  unfold Builtin.List.listLengthHint
  refine wpAny_bind (wpAny_specialOf hT map_no_len ?_)
  show wpAny _ _ (specialOf (Value.ref I2) (Str.ofString "__length_hint__") >>= _) _ _ _
  refine wpAny_bind (wpAny_specialOf hT map_no_hint ?_)
  refine wpAny_pure ?_
  show wpAny _ _ (rule "list.extend.makes-room" >>= fun _ => Builtin.List.listTouch (.ref S) >>= fun _ => again (.builtin "list.extend.loop" ⟨[.ref S, .ref I2, .none], []⟩)) _ _ _
  refine wpAny_bind (wpAny_rule ?_)
  refine wpAny_bind ?_
  show wpAny _ _ (updateSeq S (·.push .none) >>= fun _ => updateSeq S (·.pop)) _ _ _
  refine wpAny_bind (wpAny_updateSeq hS₂ rfl ?_)
  have hS₃ := Heap.get?_update_self (Obj.mapSeq (·.push Value.none)) hS₂ rfl
  have hs₃ : Heap.SameBut S H₂ (H₂.update S (Obj.mapSeq (·.push Value.none))) := Heap.SameBut.update ..
  generalize H₂.update S (Obj.mapSeq (·.push Value.none)) = H₃ at hS₃ hs₃ ⊢
  refine wpAny_updateSeq (hz := by seq_fits) hS₃ rfl ?_
  have hS₄ := Heap.get?_update_self (Obj.mapSeq (·.pop)) hS₃ rfl
  have hs₄ : Heap.SameBut S H₃ (H₃.update S (Obj.mapSeq (·.pop))) := Heap.SameBut.update ..
  generalize H₃.update S (Obj.mapSeq (·.pop)) = H₄ at hS₄ hs₄ ⊢
  have k₄ : ∀ b o, s.heap.get? b = some o → H₄.get? b = some o := fun b o e => (hs₄.2 b (ne e).symm).trans ((hs₃.2 b (ne e).symm).trans (k₂ b o e))
  refine wpAny_pure ⟨plainId_quiet PySem.F.plain_extend_loop _, ?_⟩
  obtain ⟨n₄, hS₅⟩ : ∃ n, H₄.get? S = some { cls := .type "list", data := .seq #[] n } := ⟨_, hS₄.trans rfl⟩
  refine extLoopC (A := A.in1) hne hh hf hz xs.length 0 { s with heap := H₄ } #[] n₄ [] rfl (Nat.zero_le _) (m.keep fun b o _ e => k₄ b o e) hS₅ rfl .nil ?_ ?_
  · intro h' tk acc' c' ks' r1 r2 r3 r4
    refine wpC_ite_neg (by decide) ?_
    refine wpC_pure ?_
    exact hok S h' tk acc' c' ks' hSn (fun b o hb e => r1 b o (ne e).symm hb (k₄ b o e)) r2 r3 r4
  · intro hex h₁ h' tk e r1 r2
    exact herr hex h₁ h' tk e (fun b o hb e => r1 b o (ne e).symm hb (k₄ b o e)) r2
end
end Mine
end
section
open PySem PySem.W PyProof.Rows PySem.Calls
set_option maxRecDepth 100000
set_option maxHeartbeats 4000000
namespace Mine
def nvL (v b : Str) : List Str := Txt.split v "." ++ (if b.length == 0 then [] else [b])
def nvS (l : List Str) : List Str := match l.mapM PySem.intText? with | some ks => ks.map fun k => Str.ofString (toString k) | none => l
def nvP (v b : Str) : Str := Txt.join "." ((nvS (nvL v b)).take 3)
theorem mapM_some {l : List Str} {ks : List Int} (h : l.map PySem.intText? = ks.map some) : l.mapM PySem.intText? = some ks := by
  induction l generalizing ks with
  | nil => cases ks with
    | nil => rfl
    | cons k ks => cases h
  | cons x l ih => cases ks with
    | nil => cases h
    | cons k ks =>
      rw [List.map_cons, List.map_cons] at h
      injection h with h1 h2
      rw [List.mapM_cons, h1, ih h2]; rfl
theorem mapM_none {l : List Str} (h : ∃ p ∈ l, PySem.intText? p = none) : l.mapM PySem.intText? = none := by
  induction l with
  | nil => obtain ⟨p, hp, _⟩ := h; cases hp
  | cons x l ih =>
    rw [List.mapM_cons]
    cases hx : PySem.intText? x with
    | none => rfl
    | some k =>
      obtain ⟨p, hp, he⟩ := h
      rcases List.mem_cons.mp hp with rfl | hp
      · rw [hx] at he; cases he
      · rw [ih ⟨p, hp, he⟩]; rfl
theorem mapM_length {l : List Str} {ks : List Int} (h : l.mapM PySem.intText? = some ks) : ks.length = l.length := by
  induction l generalizing ks with
  | nil => cases h; rfl
  | cons x l ih =>
    rw [List.mapM_cons] at h
    cases hx : PySem.intText? x with
    | none => rw [hx] at h; cases h
    | some k =>
      rw [hx] at h
      cases hl : l.mapM PySem.intText? with
      | none => rw [hl] at h; cases h
      | some ks' =>
        rw [hl] at h
        have e : k :: ks' = ks := Option.some.inj h
        rw [← e, List.length_cons, List.length_cons, ih hl]
section
variable {prog : Program} {w : World} {A : Around} {s : Shared} {E : Value → Shared → Prop} {Q : Value → Shared → Prop} {env : Env}
theorem callTypeDC {T : String} {pos : Pos} {e : Expr} {rest : List Expr}
    (h : wpAny (model prog w) A (spliced (backTo pos (starEach (e :: rest) env))) (fun vs s₁ => wpC (model prog w) A (call (.type T) vs) Q E s₁) E s)
    (he : starEach (e :: rest) env = (false, eval e env) :: starEach rest env := by rfl)
    (hplain : (backTo pos (starEach rest env)).any (·.1) = false := by rfl) :
    wpC (model prog w) A (callWith pos (.type T) [] (backTo pos (starEach (e :: rest) env)) []) Q E s := by
  rw [he] at h ⊢
  exact callIntC (by show (false || (backTo pos (starEach rest env)).any (·.1)) = false; rw [hplain]; rfl) (evalArgs_plain h)
end

section
variable {s₀ s : Shared} {hb : Heap} {L L' it : Addr} {oL : Obj} {m : Str → Option Value}
theorem Ps.ext (x : Ps s₀ hb L L' oL m s) {h' : Heap} {tk : Nat} (hk : ∀ b o, b ≠ it → s.heap.get? b = some o → h'.get? b = some o) (h0 : s₀.heap.get? it = none) (h1 : hb.get? it = none) (h2 : L ≠ it) (h3 : L' ≠ it) :
    Ps s₀ hb L L' oL m { s with heap := h', toks := tk } := by
  obtain ⟨⟨sl, e⟩, a, b⟩ := x.law
  exact ⟨⟨x.F.ns.at fun o e => hk _ o h3 e, fun b o e => hk b o (fun q => by rw [q, h1] at e; cases e) (x.F.keep b o e), x.F.above⟩, ⟨⟨sl, hk _ _ h2 e⟩, a, b⟩,
    fun b o hL e => hk b o (fun q => by rw [q, h0] at e; cases e) (x.keep b o hL e), x.gens, x.os⟩
theorem isList_keep {h h' : Heap} {D : Addr} {vs : Array Value} (x : h.IsList D vs) (hk : ∀ o, h.get? D = some o → h'.get? D = some o) : h'.IsList D vs := by
  obtain ⟨o, a, b⟩ := x
  exact ⟨o, hk o a, b⟩
theorem rd_list {h : Heap} {D : Addr} {l : List (Str × Tok)} (x : h.IsList D (strValues l).toArray) : Rd Every h (.ref D) (.list ((l.map (·.1)).map PyData.str)) := by
  obtain ⟨o, a, b, n, c⟩ := x
  exact .list trivial a b c (rd_strs l)
end
theorem nv_spec {prog : Program} {w : World} {A : Around} {s : Shared} {mg mb : Str → Option Value} {E : Value → Shared → Prop} {Q : Value → Shared → Prop} {hb : Heap} {L : Addr} {oL : Obj} {envL : Env} {v b : Str} {t1 t2 : Tok}
    (G : Gd w mg mb hb) (hk : ∀ b o, hb.get? b = some o → s.heap.get? b = some o) (hbL : hb.get? L = none) (hbs : hb.objs.size ≤ s.heap.objs.size)
    (hL : ∃ sl, s.heap.get? L = some { oL with slots := sl }) (eL : EnvL envL L oL) (hfr : A.frames = some [envL]) (hd : A.depth < 500) (hh : A.handled = none)
    (hx : v.length ≤ 600) (hf : ∀ p ∈ nvL v b, Fits p) (hsl : (nvL v b).length ≤ 1000)
    (hw : ((((nvS (nvL v b)).take 3).map (·.length)).sum + ((nvS (nvL v b)).take 3).length ≤ 1048576))
    (h : ∀ t s', Kp L oL s s' → Q (.str (nvP v b) t) s') :
    wpC (model prog w) A (call (.ref 52) [.str v t1, .str b t2]) Q E s := by
  have M := G.nm
  obtain ⟨t45, n45, e45⟩ : ∃ t n, (KF w).lookup 45 = some ⟨.type "tuple", none, .seq #[.str "" t] n, #[]⟩ := ⟨_, _, rfl⟩
  refine enterC (G.keeps hk) rfl rfl (by unfold recursionLimit; omega) (BindsTo.of_defaults rfl ((G.keeps hk).K _ _ e45) rfl rfl rfl) (locs rfl) ?_
  intro h₁ F₀
  obtain ⟨sl, hL⟩ := hL
  have hL0 : s.heap.get? s.heap.objs.size = none := Heap.get?_none_of_le (Nat.le_refl _)
  have F : Fr hb s.heap.objs.size h₁ _ := ⟨F₀.ns, fun b o e => F₀.keep b o (hk b o e), hbs⟩
  have X : Ps s hb L s.heap.objs.size oL _ { s with heap := h₁ } := ⟨F, ⟨⟨sl, F₀.keep _ _ hL⟩, hbL, Nat.ne_of_lt (Heap.lt_size hL)⟩, fun b o _ e => F₀.keep b o e, rfl, rfl⟩
  refine wpC_execs_cons ?_
  refine wpC_of ?_
  refine wpAny_Assign_Name ?_
  refine MethodCall_ ?_
  refine ld F rfl ?_
  with_reducible refine split_meth ?_
  refine callWith_method1 ?_
  refine args_cons ?_
  refine wpAny_Constant_str ?_
  refine args_nil ?_
  refine split_new (X.tok _) hL0 ⟨_, hL⟩ (by decide) ?_ (by rw [sizeLine_eq]; omega)
  intro D l h₂ k₂ el X₂ hD h0 hDL hDL' hbD
  refine stS X₂.F ?_
  intro h₃ tk₃ hs₃ F₃
  have X₃ := X₂.set (tk := tk₃) hL0 F₃ hs₃
  have hD₃ : h₃.IsList D (strValues l).toArray := ⟨_, (hs₃.2 D hDL').trans hD, rfl, _, rfl⟩
  refine wpC_execs_cons ?_
  refine wpC_mono (Q := fun f s' => f = .next ∧ ∃ m l', Ps s hb L s.heap.objs.size oL m s' ∧ s'.heap.IsList D (strValues l').toArray ∧ l'.map (·.1) = nvL v b ∧ m "l" = some (.ref D)) (E := fun _ _ => False) ?_ ?_ (fun _ _ e => e)
  · refine wpC_of ?_
    refine wpAny_If ?_
    refine wpAny_isTrue_value ?_
    refine ld F₃ rfl ?_
    have hbl : b.length ≤ 600 := by
      by_cases h0 : b.length = 0
      · omega
      · exact (hf b (List.mem_append_right _ (by rw [if_neg (by simpa using h0)]; exact .head _))).len
    refine PySem.P.truthy_str (by omega) ?_
    by_cases hb0 : b.length = 0
    · have e0 : ((b.length : Int) != 0) = false := by rw [hb0]; rfl
      rw [e0]
      refine wpAny_execs_nil ?_
      refine ⟨rfl, _, l, X₃.tok _, hD₃, ?_, rfl⟩
      rw [el]; unfold nvL; rw [if_pos (by simpa using hb0), List.append_nil]
    · have e0 : ((b.length : Int) != 0) = true := by simpa using hb0
      rw [e0]
      obtain ⟨oD, hoD, hcD, nD, hdD⟩ := id hD₃
      refine wpAny_execs_cons ?_
      refine wpAny_Expr_any ?_
      refine MethodCall_ ?_
      refine ld F₃ rfl ?_
      refine getMethod_list_append ((hs₃.2 D hDL').trans hD) rfl rfl ?_
      refine callWith_method1 ?_
      refine args_cons ?_
      refine ld F₃ rfl ?_
      refine args_nil ?_
      refine wpAny_list_append hD₃ ?_ (by
        have := congrArg List.length el
        simp [strValues, nvL] at this hsl ⊢
        rw [sizeLine_eq]; omega)
      intro h₄ hl₄ hs₄
      refine wpAny_execs_nil ?_
      refine ⟨rfl, _, l ++ [(b, t2)], (X₃.tok _).change hs₄ h0 hbD hDL hDL', ?_, ?_, rfl⟩
      · have e1 : (strValues l).toArray.push (.str b t2) = (strValues (l ++ [(b, t2)])).toArray := by simp [strValues]
        exact e1 ▸ hl₄
      · rw [List.map_append, el]; unfold nvL; rw [if_neg (by simpa using hb0)]; rfl
  · rintro f s₄ ⟨rfl, m₄, l', X₄, hD₄, el', hm₄⟩
    refine wpC_execs_cons ?_
    refine wpC_mono (Q := fun f s' => f = .next ∧ ∃ m l' D', Ps s hb L s.heap.objs.size oL m s' ∧ m "strings" = some (.ref D') ∧ s'.heap.IsList D' (strValues l').toArray ∧ l'.map (·.1) = nvS (nvL v b)) (E := fun _ _ => False) ?_ ?_ (fun _ _ e => e)
    · refine tryVEC hfr eL G ?_
      refine wpC_execs_cons ?_
      refine wpC_Assign_Name ?_
      refine CallC ?_
      refine ld_builtin_at X₄.F G.T.g M.glist G.T.b M.blist ?_
      refine callTypeDC ?_
      refine args_cons ?_
      refine Call_ ?_
      refine ld_builtin_at X₄.F G.T.g M.gmap G.T.b M.bmap ?_
      refine PyProof.Rows.callWith_type1 ?_
      refine args_cons ?_
      refine ld_builtin_at X₄.F G.T.g M.gstr G.T.b M.bstr ?_
      refine args_cons ?_
      refine Call_ ?_
      refine ld_builtin_at X₄.F G.T.g M.gmap G.T.b M.bmap ?_
      refine PyProof.Rows.callWith_type1 ?_
      refine args_cons ?_
      refine ld_builtin_at X₄.F G.T.g M.gint G.T.b M.bint ?_
      refine args_cons ?_
      refine ld X₄.F hm₄ ?_
      refine args_nil ?_
      refine mapList hD₄ ?_
      refine args_nil ?_
      have X₅ := ((X₄.push { cls := .type "list_iterator", data := .fields #[.ref D, .int 0 0] }).push (tupOf #[.ref s₄.heap.objs.size])).push (mapObj (s₄.heap.objs.size + 1) (.type "int"))
      have sz : (((s₄.heap.push { cls := .type "list_iterator", data := .fields #[.ref D, .int 0 0] }).push (tupOf #[.ref s₄.heap.objs.size])).push (mapObj (s₄.heap.objs.size + 1) (.type "int"))).objs.size = s₄.heap.objs.size + 3 := by
        rw [Heap.size_push, Heap.size_push, Heap.size_push]
      have gIt : (((s₄.heap.push { cls := .type "list_iterator", data := .fields #[.ref D, .int 0 0] }).push (tupOf #[.ref s₄.heap.objs.size])).push (mapObj (s₄.heap.objs.size + 1) (.type "int"))).get? s₄.heap.objs.size = some { cls := .type "list_iterator", data := .fields #[.ref D, .int 0 0] } :=
        Heap.get?_push_of_some _ (Heap.get?_push_of_some _ (Heap.get?_push_size _ rfl))
      have gT1 : (((s₄.heap.push { cls := .type "list_iterator", data := .fields #[.ref D, .int 0 0] }).push (tupOf #[.ref s₄.heap.objs.size])).push (mapObj (s₄.heap.objs.size + 1) (.type "int"))).get? (s₄.heap.objs.size + 1) = some (tupOf #[.ref s₄.heap.objs.size]) := by
        have e := Heap.get?_push_size (s₄.heap.push { cls := .type "list_iterator", data := .fields #[.ref D, .int 0 0] }) (o := tupOf #[.ref s₄.heap.objs.size]) rfl
        rw [Heap.size_push] at e
        exact Heap.get?_push_of_some _ e
      have gI1 : (((s₄.heap.push { cls := .type "list_iterator", data := .fields #[.ref D, .int 0 0] }).push (tupOf #[.ref s₄.heap.objs.size])).push (mapObj (s₄.heap.objs.size + 1) (.type "int"))).get? (s₄.heap.objs.size + 2) = some (mapObj (s₄.heap.objs.size + 1) (.type "int")) := by
        have e := Heap.get?_push_size ((s₄.heap.push { cls := .type "list_iterator", data := .fields #[.ref D, .int 0 0] }).push (tupOf #[.ref s₄.heap.objs.size])) (o := mapObj (s₄.heap.objs.size + 1) (.type "int")) rfl
        rw [Heap.size_push, Heap.size_push] at e
        exact e
      have gk : ∀ b o, s₄.heap.get? b = some o → (((s₄.heap.push { cls := .type "list_iterator", data := .fields #[.ref D, .int 0 0] }).push (tupOf #[.ref s₄.heap.objs.size])).push (mapObj (s₄.heap.objs.size + 1) (.type "int"))).get? b = some o :=
        fun b o e => Heap.get?_push_of_some _ (Heap.get?_push_of_some _ (Heap.get?_push_of_some _ e))
      revert X₅ sz gIt gT1 gI1 gk
      generalize ((s₄.heap.push { cls := .type "list_iterator", data := .fields #[.ref D, .int 0 0] }).push (tupOf #[.ref s₄.heap.objs.size])).push (mapObj (s₄.heap.objs.size + 1) (.type "int")) = H₁
      intro X₅ sz gIt gT1 gI1 gk
      refine mapMap gI1 ?_
      refine args_nil ?_
      dsimp only
      rw [sz]
      have X₆ := (X₅.push (tupOf #[.ref (s₄.heap.objs.size + 2)])).push (mapObj (s₄.heap.objs.size + 3) (.type "str"))
      have gT2 : ((H₁.push (tupOf #[.ref (s₄.heap.objs.size + 2)])).push (mapObj (s₄.heap.objs.size + 3) (.type "str"))).get? (s₄.heap.objs.size + 3) = some (tupOf #[.ref (s₄.heap.objs.size + 2)]) := by
        have e := Heap.get?_push_size H₁ (o := tupOf #[.ref (s₄.heap.objs.size + 2)]) rfl
        rw [sz] at e
        exact Heap.get?_push_of_some _ e
      have gI2 : ((H₁.push (tupOf #[.ref (s₄.heap.objs.size + 2)])).push (mapObj (s₄.heap.objs.size + 3) (.type "str"))).get? (s₄.heap.objs.size + 4) = some (mapObj (s₄.heap.objs.size + 3) (.type "str")) := by
        have e := Heap.get?_push_size (H₁.push (tupOf #[.ref (s₄.heap.objs.size + 2)])) (o := mapObj (s₄.heap.objs.size + 3) (.type "str")) rfl
        rw [Heap.size_push, sz] at e
        exact e
      have gk₂ : ∀ b o, H₁.get? b = some o → ((H₁.push (tupOf #[.ref (s₄.heap.objs.size + 2)])).push (mapObj (s₄.heap.objs.size + 3) (.type "str"))).get? b = some o := fun b o e => Heap.get?_push_of_some _ (Heap.get?_push_of_some _ e)
      revert X₆ gT2 gI2 gk₂
      generalize (H₁.push (tupOf #[.ref (s₄.heap.objs.size + 2)])).push (mapObj (s₄.heap.objs.size + 3) (.type "str")) = H₂
      intro X₆ gT2 gI2 gk₂
      have hit0 : s₄.heap.get? s₄.heap.objs.size = none := Heap.get?_none_of_le (Nat.le_refl _)
      obtain ⟨⟨sl₄, hl₄⟩, _, _⟩ := id X₄.law
      have n1 : L ≠ s₄.heap.objs.size := Nat.ne_of_lt (Heap.lt_size hl₄)
      have n2 : s.heap.objs.size ≠ s₄.heap.objs.size := Nat.ne_of_lt X₄.F.ns.lt
      have n3 : s.heap.get? s₄.heap.objs.size = none := by
        cases hq : s.heap.get? s₄.heap.objs.size with
        | none => rfl
        | some o => have := X₄.keep _ o n1.symm hq; rw [hit0] at this; cases this
      have n4 : hb.get? s₄.heap.objs.size = none := by
        cases hq : hb.get? s₄.heap.objs.size with
        | none => rfl
        | some o => have := X₄.F.keep _ o hq; rw [hit0] at this; cases this
      obtain ⟨oD, hoD, hoD'⟩ := id hD₄
      have n5 : D ≠ s₄.heap.objs.size := Nat.ne_of_lt (Heap.lt_size hoD)
      have hfl : ∀ p ∈ l', Fits p.1 := fun p hp => hf p.1 (el' ▸ List.mem_map.mpr ⟨p, hp, rfl⟩)
      have hll : l'.length ≤ 1000 := by
        have := congrArg List.length el'
        rw [List.length_map] at this
        omega
      refine listMaps (I2 := s₄.heap.objs.size + 4) (T2 := s₄.heap.objs.size + 3) (I1 := s₄.heap.objs.size + 2) (T1 := s₄.heap.objs.size + 1) (it := s₄.heap.objs.size) (l := D) (xs := l')
        ⟨gI2, gT2, gk₂ _ _ gI1, gk₂ _ _ gT1, ⟨_, gk₂ _ _ gIt, rfl, rfl⟩, ⟨oD, gk₂ _ _ (gk _ _ hoD), hoD'⟩, addr_ne (.inr (Nat.lt_add_of_pos_right (by decide))), addr_ne (.inr (Nat.lt_add_of_pos_right (by decide))), addr_ne (.inr (Nat.lt_add_of_pos_right (by decide))), addr_ne (.inr (Nat.lt_add_of_pos_right (by decide))), n5⟩ hh hfl (by omega) ?_ ?_
      · intro S h₇ tk₇ acc c ks hS keep₇ hS₇ hks ra
        have X₇ := X₆.ext (tk := tk₇) keep₇ n3 n4 n1 n2
        obtain ⟨l₇, hl₇, el₇⟩ := RdAll.strs (xs := ks.map fun k => Str.ofString (toString k)) (by rw [List.map_map]; exact ra)
        have hmm : nvS (nvL v b) = ks.map fun k => Str.ofString (toString k) := by
          unfold nvS
          rw [← el', mapM_some (ks := ks) (by rw [List.map_map]; exact hks)]
        have hSL : S ≠ s.heap.objs.size := fun q => by
          have := X₆.F.ns
          obtain ⟨oL', _, _, e, _⟩ := this
          rw [q] at hS; rw [hS] at e; cases e
        refine stS X₇.F ?_
        intro h₈ tk₈ hs₈ F₈
        have X₈ := X₇.set (tk := tk₈) hL0 F₈ hs₈
        refine wpC_of ?_
        refine wpAny_execs_nil ?_
        refine wpAny_execs_nil ?_
        refine ⟨rfl, _, l₇, S, X₈, rfl, ⟨_, (hs₈.2 S hSL).trans hS₇, rfl, c, ?_⟩, el₇.trans hmm.symm⟩
        show Data.seq acc c = _
        rw [← hl₇]
      · intro hex h₇ h₈ tk₈ ea keep₇ hnew
        have X₇ := X₆.ext (tk := tk₈) keep₇ n3 n4 n1 n2
        refine ⟨ea, h₇, m₄, rfl, hnew, X₇.F, X₇.law, fun h₉ F₉ hk₉ law₉ => ?_⟩
        have X₉ := X₇.step (s' := { s₄ with heap := h₉ }) hL0 F₉ law₉ hk₉ rfl rfl
        refine wpAny_execs_cons ?_
        refine wpAny_Assign_Name ?_
        refine ld F₉ hm₄ ?_
        refine stS F₉ ?_
        intro h₁₀ tk₁₀ hs₁₀ F₁₀
        have X₁₀ := X₉.set (tk := tk₁₀) hL0 F₁₀ hs₁₀
        refine wpAny_execs_nil ?_
        have hmm : nvS (nvL v b) = nvL v b := by
          unfold nvS
          obtain ⟨p, hp, he⟩ := hex
          rw [mapM_none ⟨p.1, el' ▸ List.mem_map.mpr ⟨p, hp, rfl⟩, he⟩]
        refine ⟨rfl, _, l', D, X₁₀, rfl, ⟨oD, (hs₁₀.2 D hDL').trans (hk₉ D oD hDL hDL' (keep₇ D oD n5 (gk₂ _ _ (gk _ _ hoD)))), hoD'⟩, el'.trans hmm.symm⟩
    · rintro f s₅ ⟨rfl, m₅, l₅, D₅, X₅, hm₅, hD₅, el₅⟩
      refine wpC_execs_cons ?_
      refine wpC_of ?_
      refine wpAny_Assign_Name ?_
      refine MethodCall_ ?_
      refine wpAny_Constant_str ?_
      with_reducible refine GM.join ?_
      refine callWith_method1 ?_
      refine args_cons ?_
      refine cutL_to (i := 3) (ok := Every) X₅.F ?_
      refine ld X₅.F hm₅ ?_
      refine ⟨_, rd_list hD₅, ?_, X₅.F, fun c s₆ q₆ r₆ => ?_⟩
      · have e1 := congrArg List.length el₅
        have e2 : (nvS (nvL v b)).length ≤ 1000 := by
          unfold nvS
          split
          · rename_i ks hks
            have := mapM_length hks
            simp; omega
          · exact hsl
        simp at e1 ⊢
        omega
      refine args_nil ?_
      obtain ⟨vs, hl₆, ra₆, _⟩ := r₆.listOf
      rw [← List.map_take] at ra₆
      obtain ⟨l₆, rfl, el₆⟩ := ra₆.strs
      rw [el₅] at el₆
      refine SC.join hl₆ el₆ (joinOk_of_weight hw (by decide)) fun t' k' => ?_
      have X₆ : Ps s hb L s.heap.objs.size oL m₅ s₆ := ⟨q₆.fr, X₅.law.keep q₆.keep, fun b o h1 e => q₆.keep b o (X₅.keep b o h1 e), q₆.gens.trans X₅.gens, q₆.os.trans X₅.os⟩
      refine stS X₆.F ?_
      intro h₇ tk₇ hs₇ F₇
      have X₇ := X₆.set (tk := tk₇) hL0 F₇ hs₇
      refine wpC_execs_cons ?_
      refine wpC_of ?_
      refine wpAny_Return_some ?_
      refine ld F₇ rfl ?_
      exact h _ _ X₇.kp
end Mine
end
section
open PySem PySem.W PyProof.Rows PySem.Calls
set_option maxRecDepth 100000
set_option maxHeartbeats 400000
namespace Mine
theorem slot_filter_next : Slot "filter" "__next__" "filter.__next__" :=
  .of (owner := "filter") (n := "__next__") (by rw [typeLookup_type, builtinLookup_eq_fast]; kernel_rfl) (by decide +kernel) (by decide +kernel) (by decide +kernel)
    (by first | exact .inl (by decide +kernel) | exact .inr (by decide +kernel)) (by rw [isSubtype_type]; kernel_rfl)
theorem slot_filter_iter : Slot "filter" "__iter__" "filter.__iter__" :=
  .of (owner := "filter") (n := "__iter__") (by rw [typeLookup_type, builtinLookup_eq_fast]; kernel_rfl) (by decide +kernel) (by decide +kernel) (by decide +kernel)
    (by first | exact .inl (by decide +kernel) | exact .inr (by decide +kernel)) (by rw [isSubtype_type]; kernel_rfl)
theorem slot_filter_init : Slot "filter" "__init__" "object.__init__" :=
  .of (owner := "object") (n := "__init__") (by rw [typeLookup_type, builtinLookup_eq_fast]; kernel_rfl) (by decide +kernel) (by decide +kernel) (by decide +kernel)
    (by first | exact .inl (by decide +kernel) | exact .inr (by decide +kernel)) (by rw [isSubtype_type]; kernel_rfl)
theorem entry_filter_next : entryFor table "filter.__next__" = some Builtin.«filter.__next__» := entryFor_of_tree (by kernel_rfl)
theorem plain_filter_next : plainId "filter.__next__" = true := by decide +kernel
theorem entry_filter_iter : entryFor table "filter.__iter__" = some Builtin.«dict_keyiterator.__iter__» :=
  entryFor_alias (id' := "dict_keyiterator.__iter__") (by rw [fastTable_eq_tree]; kernel_rfl) rfl (by decide +kernel) (by rw [fastTable_eq_tree]; kernel_rfl)
theorem entry_filter_new : entryFor table "filter.__new__" = some Builtin.«filter.__new__» := entryFor_of_tree (by kernel_rfl)
theorem args_filter_next (a : Value) : argsOk "filter.__next__" ⟨[a], []⟩ := by unfold argsOk; kernel_rfl
theorem args_filter_iter (a : Value) : argsOk "filter.__iter__" ⟨[a], []⟩ := by unfold argsOk; kernel_rfl
theorem mro_filter : mroOf (.type "filter") = pure [.type "filter", .type "object"] := by rw [mroOf_type]; kernel_rfl
theorem lookup_filter_new : typeLookup (.type "filter") "__new__" = pure (some (.builtin "filter.__new__")) := by rw [typeLookup_type, builtinLookup_eq_fast]; kernel_rfl
theorem sub_filter : isSubtype (.type "filter") (.type "filter") = pure true := by rw [isSubtype_type]; kernel_rfl
theorem called_filter : TypeCalled "filter" "filter.__new__" "object.__init__" :=
  ⟨by decide +kernel, by decide +kernel, ⟨_, _, mro_filter⟩, madeBy_type mro_filter lookup_filter_new (by decide +kernel), by decide +kernel, sub_filter, slot_filter_init⟩
theorem typeCall_filter (a b : Value) : checkTypeCall "filter" ⟨[a, b], []⟩ = pure () := by kernel_rfl
theorem newCall_filter (a b : Value) : checkBuiltinCall "filter.__new__" ⟨[.type "filter", a, b], []⟩ = pure () := by kernel_rfl
abbrev filtObj (it : Addr) : Obj := { cls := .type "filter", data := .fields #[.builtin "len", .ref it] }
section
variable {prog : Program} {w : World} {A : Around} {E : Value → Shared → Prop} {s : Shared} {it l : Addr} {i : Nat} {items : Array Value}
theorem ti_item {x : Value} {Q : Value → Shared → Prop} (hit : s.heap.IsTupleIter it l i) (hl : s.heap.IsTuple l items) (hx : items[i]? = some x)
    (hQ : ∀ h', h'.IsTupleIter it l (i + 1) → Heap.SameBut it s.heap h' → Q x { s with heap := h' }) : wpAny (model prog w) A (call (.builtin "tuple_iterator.__next__") [.ref it]) Q E s := by
  obtain ⟨o, ho, hc, hd⟩ := id hit
  obtain ⟨ol, hol, _, nl, hdl⟩ := hl
  refine wpAny_call_entry PySem.F.slot_tuple_iterator_next hit.typeIs PySem.F.entry_tuple_iterator_next ?_ (PySem.F.args_tuple_iterator_next_1 _)
  show wpAny _ _ (field (.ref it) 0 >>= _) _ _ s
  refine wpAny_bind (wpAny_field ho hd (x := .ref l) rfl ?_)
  show wpAny _ _ (if (Value.ref l == Value.none) = true then _ else _) _ _ s
  rw [if_neg (show ¬ ((Value.ref l == Value.none) = true) from Bool.false_ne_true)]
  show wpAny _ _ (field (.ref it) 1 >>= _) _ _ s
  refine wpAny_bind (wpAny_field ho hd (x := .int i 0) rfl ?_)
  show wpAny _ _ (seqItems? (.ref l) >>= _) _ _ s
  refine wpAny_bind (wpAny_seqItems hol hdl ?_)
  simp only [Int.toNat_natCast, hx]
  refine wpAny_bind (wpAny_setField ho hd (by simp) (wpAny_pure ⟨x, rfl, hQ _ ?_ (Heap.SameBut.update ..)⟩))
  exact ⟨_, Heap.get?_update_self _ ho (Obj.isFreed_of_fields (Obj.data_mapFields hd _)), (Obj.cls_mapFields ..).trans hc, by
    rw [Obj.data_mapFields hd]; simp [rawInt]⟩
theorem ti_end {Q : Value → Shared → Prop} (hh : A.handled = none) (hit : s.heap.IsTupleIter it l i) (hl : s.heap.IsTuple l items) (hx : items[i]? = none)
    (hQ : ∀ e h', Heap.ExtBut it s.heap h' → (∃ o, h'.get? e = some o ∧ o.cls = .type "StopIteration") → E (.ref e) { s with heap := h' }) : wpAny (model prog w) A (call (.builtin "tuple_iterator.__next__") [.ref it]) Q E s := by
  obtain ⟨o, ho, hc, hd⟩ := id hit
  obtain ⟨ol, hol, _, nl, hdl⟩ := hl
  refine wpAny_call_entry PySem.F.slot_tuple_iterator_next hit.typeIs PySem.F.entry_tuple_iterator_next ?_ (PySem.F.args_tuple_iterator_next_1 _)
  show wpAny _ _ (field (.ref it) 0 >>= _) _ _ s
  refine wpAny_bind (wpAny_field ho hd (x := .ref l) rfl ?_)
  show wpAny _ _ (if (Value.ref l == Value.none) = true then _ else _) _ _ s
  rw [if_neg (show ¬ ((Value.ref l == Value.none) = true) from Bool.false_ne_true)]
  show wpAny _ _ (field (.ref it) 1 >>= _) _ _ s
  refine wpAny_bind (wpAny_field ho hd (x := .int i 0) rfl ?_)
  show wpAny _ _ (seqItems? (.ref l) >>= _) _ _ s
  refine wpAny_bind (wpAny_seqItems hol hdl ?_)
  simp only [Int.toNat_natCast, hx]
  refine wpAny_bind (wpAny_rule (wpAny_bind (wpAny_setField ho hd (by simp) ?_)))
  show wpAny _ _ (newExc (.type "StopIteration") [] >>= _) _ _ _
  refine wpAny_bind ?_
  simp only [newExc, newTuple]
  refine wpAny_bind (wpAny_newObj_type ?_ (by size_fits))
  refine wpAny_bind (m := firstArgMember _ _) (wpAny_of_eq (a := Value.none) (by first | rfl | (simp only [firstArgMember]; rfl)) ?_)
  refine wpAny_newObj_type ?_ (by size_fits)
  simp only [raiseNew]
  refine wpAny_bind (wpAny_handled ?_)
  rw [show A.in1.handled = none from hh]
  refine wpAny_bind (wpAny_pure (wpAny_throw ?_))
  exact hQ _ _ (((Heap.SameBut.update ..).extBut.push _).push _) ⟨_, Heap.get?_push_size _ rfl, rfl⟩
end
/-- a filter by len over what is left of a tuple of texts -/
structure Fl (I it t : Addr) (xs rest : List (Str × Tok)) (h : Heap) : Prop where
  fx : h.get? I = some (filtObj it)
  ix : ∃ j, h.IsTupleIter it t j ∧ xs.drop j = rest
  tx : h.IsTuple t (strValues xs).toArray
  n1 : I ≠ it
  n2 : t ≠ it
abbrev emp (p : Str × Tok) : Bool := p.1.length == 0
section
variable {prog : Program} {w : World} {A : Around} {R : Result → Shared → Prop} {I it t : Addr} {xs : List (Str × Tok)}
theorem Fl.keep {rest : List (Str × Tok)} {h h' : Heap} (x : Fl I it t xs rest h) (hk : ∀ b o, b = I ∨ b = it ∨ b = t → h.get? b = some o → h'.get? b = some o) : Fl I it t xs rest h' := by
  obtain ⟨j, ⟨o, a, b⟩, e⟩ := x.ix
  obtain ⟨o', a', b'⟩ := x.tx
  exact ⟨hk _ _ (.inl rfl) x.fx, ⟨j, ⟨o, hk _ _ (.inr (.inl rfl)) a, b⟩, e⟩, ⟨o', hk _ _ (.inr (.inr rfl)) a', b'⟩, x.n1, x.n2⟩
theorem flt_next (hh : A.handled = none) (hz : ∀ p ∈ xs, p.1.length ≤ 100000) : ∀ (rest : List (Str × Tok)) (s : Shared), Fl I it t xs rest s.heap →
    (∀ p r, rest.dropWhile emp = p :: r → ∀ h' tk, Fl I it t xs r h' → (∀ b o, b ≠ it → s.heap.get? b = some o → h'.get? b = some o) → R (.ok (.ret (.str p.1 p.2))) { s with heap := h', toks := tk }) →
    (rest.dropWhile emp = [] → ∀ e h' tk, (∀ b o, b ≠ it → s.heap.get? b = some o → h'.get? b = some o) → (∃ o, h'.get? e = some o ∧ o.cls = .type "StopIteration") → R (.error (.ref e)) { s with heap := h', toks := tk }) →
    codeAny (model prog w) A (.builtin "filter.__next__" ⟨[.ref I], []⟩) R s := by
  intro rest
  induction rest with
  | nil =>
    intro s x h1 h2
    obtain ⟨j, hi, ej⟩ := x.ix
    refine codeAny_builtin entry_filter_next ?_
    rw [Around.under_plainId plain_filter_next _]
    unfold Builtin.«filter.__next__»
    refine wpAny_bind ?_
    refine wpAny_of_eq (a := (.ref I, [])) rfl ?_
    dsimp only
    refine wpAny_bind (wpAny_field x.fx rfl (x := .builtin "len") rfl ?_)
    refine wpAny_bind (wpAny_field x.fx rfl (x := .ref it) rfl ?_)
    refine wpAny_bind ?_
    refine wpAny_callSpecial?_slot (T := "tuple_iterator") hi.typeIs PySem.F.slot_tuple_iterator_next ?_
    refine ti_end hh hi x.tx ?_ ?_
    · have : xs.length ≤ j := List.drop_eq_nil_iff.mp ej
      simp [strValues, this]
    · intro e h' hx he
      exact h2 rfl e h' s.toks hx he
  | cons p rest ih =>
    intro s x h1 h2
    obtain ⟨j, hi, ej⟩ := x.ix
    have hj : j < xs.length := by
      by_cases hj : j < xs.length
      · exact hj
      · rw [List.drop_eq_nil_iff.mpr (by omega)] at ej; cases ej
    have hp : xs[j] = p ∧ xs.drop (j + 1) = rest := by
      rw [List.drop_eq_getElem_cons hj] at ej
      injection ej with e1 e2
      exact ⟨e1, e2⟩
    have hpl : p.1.length ≤ 100000 := hp.1 ▸ hz _ (List.getElem_mem hj)
    refine codeAny_builtin entry_filter_next ?_
    rw [Around.under_plainId plain_filter_next _]
    unfold Builtin.«filter.__next__»
    refine wpAny_bind ?_
    refine wpAny_of_eq (a := (.ref I, [])) rfl ?_
    dsimp only
    refine wpAny_bind (wpAny_field x.fx rfl (x := .builtin "len") rfl ?_)
    refine wpAny_bind (wpAny_field x.fx rfl (x := .ref it) rfl ?_)
    refine wpAny_bind ?_
    refine wpAny_callSpecial?_slot (T := "tuple_iterator") hi.typeIs PySem.F.slot_tuple_iterator_next ?_
    refine ti_item (x := .str p.1 p.2) hi x.tx (by rw [← hp.1]; simp [strValues, hj]) ?_
    intro h₁ hi₁ hs₁
    have x₁ : Fl I it t xs rest h₁ := by
      obtain ⟨o', a', b'⟩ := x.tx
      exact ⟨(hs₁.2 _ x.n1).trans x.fx, ⟨j + 1, hi₁, hp.2⟩, ⟨o', (hs₁.2 _ x.n2).trans a', b'⟩, x.n1, x.n2⟩
    dsimp only
    refine wpAny_bind ?_
    refine wpAny_holding ?_
    refine wpAny_ite_neg' (by decide) ?_
    refine wpAny_bind ?_
    refine P.len_str (by omega) ?_
    refine wpAny_holding ?_
    refine PyProof.Rows.truthy_int ?_
    by_cases h0 : p.1.length = 0
    · have e0 : ((p.1.length : Int) != 0) = false := by rw [h0]; rfl
      have e1 : emp p = true := by simpa [emp] using h0
      rw [e0]
      refine wpAny_ite_neg' Bool.false_ne_true ?_
      refine wpAny_pure ⟨plainId_quiet plain_filter_next _, ih _ x₁ ?_ ?_⟩
      · intro p' r e h' tk hf hk
        exact h1 p' r (by rw [List.dropWhile_cons, if_pos e1]; exact e) h' tk hf fun b o hb e => hk b o hb ((hs₁.2 b hb).trans e)
      · intro e e' h' tk hk he
        exact h2 (by rw [List.dropWhile_cons, if_pos e1]; exact e) e' h' tk (fun b o hb e => hk b o hb ((hs₁.2 b hb).trans e)) he
    · have e0 : ((p.1.length : Int) != 0) = true := by simpa using h0
      have e1 : ¬ emp p = true := by simpa [emp] using h0
      rw [e0]
      refine wpAny_ite_pos' rfl ?_
      exact wpAny_pure (h1 p rest (by rw [List.dropWhile_cons, if_neg e1]) h₁ _ x₁ fun b o hb e => (hs₁.2 b hb).trans e)
end
end Mine
end
section
open PySem PySem.W PyProof.Rows PySem.Calls
set_option maxRecDepth 100000
set_option maxHeartbeats 400000
namespace Mine
theorem filter_drop {l r : List (Str × Tok)} {p : Str × Tok} (h : l.dropWhile emp = p :: r) : l.filter (fun q => !emp q) = p :: r.filter (fun q => !emp q) := by
  induction l with
  | nil => cases h
  | cons q l ih =>
    rw [List.dropWhile_cons] at h
    by_cases e : emp q = true
    · rw [if_pos e] at h
      rw [List.filter_cons, if_neg (by rw [e]; decide)]
      exact ih h
    · rw [if_neg e] at h
      injection h with h1 h2
      subst h1 h2
      rw [List.filter_cons, if_pos (by simpa using e)]
theorem filter_none {l : List (Str × Tok)} (h : l.dropWhile emp = []) : l.filter (fun q => !emp q) = [] := by
  induction l with
  | nil => rfl
  | cons q l ih =>
    rw [List.dropWhile_cons] at h
    by_cases e : emp q = true
    · rw [if_pos e] at h
      rw [List.filter_cons, if_neg (by rw [e]; decide)]
      exact ih h
    · rw [if_neg e] at h; cases h
abbrev full (xs : List (Str × Tok)) : List (Str × Tok) := xs.filter fun q => !emp q
section
variable {prog : Program} {w : World} {A : Around} {E : Value → Shared → Prop} {s : Shared} {I it t : Addr} {xs : List (Str × Tok)}
theorem flt_pyNext {rest : List (Str × Tok)} {Q : Option Value → Shared → Prop} (hh : A.handled = none) (hz : ∀ p ∈ xs, p.1.length ≤ 100000) (x : Fl I it t xs rest s.heap)
    (h1 : ∀ p r, rest.dropWhile emp = p :: r → ∀ h' tk, Fl I it t xs r h' → (∀ b o, b ≠ it → s.heap.get? b = some o → h'.get? b = some o) → Q (some (.str p.1 p.2)) { s with heap := h', toks := tk })
    (h2 : rest.dropWhile emp = [] → ∀ h' tk, (∀ b o, b ≠ it → s.heap.get? b = some o → h'.get? b = some o) → Q none { s with heap := h', toks := tk }) :
    wpAny (model prog w) A (pyNext (.ref I)) Q E s := by
  have hT : s.TypeIs (.ref I) "filter" := ⟨_, x.fx, rfl⟩
  unfold pyNext
  refine wpAny_bind ?_
  refine wpAny_attempt ?_
  refine wpAny_callSpecial?_slot hT slot_filter_next ?_
  refine wpAny_call (codeAny_of_tree ?_)
  show wpAny _ A.in1 (do checkBuiltinCall "filter.__next__" ⟨[.ref I], []⟩; again (.builtin "filter.__next__" ⟨[.ref I], []⟩)) _ _ s
  refine wpAny_bind (slot_filter_next.check _ _ _ _ _ _ _ _ hT (args_filter_next _) ?_)
  refine wpAny_pure ⟨plainId_quiet plain_filter_next _, flt_next hh hz rest s x ?_ ?_⟩
  · intro p r e h' tk hf hk
    exact wpAny_pure (h1 p r e h' tk hf hk)
  · intro e e' h' tk hk he
    exact wpAny_bind (wpAny_isInstance (T := "StopIteration") (b := true) he isSubtype_stop (wpAny_pure (h2 e h' tk hk)))
theorem flt_walks (hh : A.handled = none) (hz : ∀ p ∈ xs, p.1.length ≤ 100000) :
    Walks prog w A I [I, it, t] [it] (full xs).length (fun i v => ∃ p, (full xs)[i]? = some p ∧ v = .str p.1 p.2) (fun i h => ∃ rest, Fl I it t xs rest h ∧ full rest = (full xs).drop i) where
  sub := fun b hb => by rw [List.mem_singleton.mp hb]; simp
  frame := fun i h h' ⟨rest, x, e⟩ hk => ⟨rest, x.keep fun b o hb e => hk b (by rcases hb with rfl | rfl | rfl <;> simp) o e, e⟩
  item := fun i s Q E hi ⟨rest, x, e⟩ hQ => by
    refine flt_pyNext hh hz x ?_ ?_
    · intro p r hd h' tk x' hk
      have e1 : p :: full r = (full xs).drop i := (filter_drop hd).symm.trans e
      have e2 : (full xs)[i]? = some p := by rw [← List.head?_drop, ← e1]; rfl
      refine hQ _ h' tk ⟨p, e2, rfl⟩ ⟨r, x', ?_⟩ fun b o hb e => hk b o (fun q => hb (by rw [q]; exact .head _)) e
      rw [← List.drop_drop, ← e1]; rfl
    · intro hd h' tk hk
      have e1 : [] = (full xs).drop i := (filter_none hd).symm.trans e
      have := List.drop_eq_nil_iff.mp e1.symm
      omega
  done := fun s Q E ⟨rest, x, e⟩ hQ => by
    refine flt_pyNext hh hz x ?_ ?_
    · intro p r hd h' tk x' hk
      have e1 : p :: full r = (full xs).drop (full xs).length := (filter_drop hd).symm.trans e
      rw [List.drop_length] at e1; cases e1
    · intro hd h' tk hk
      exact hQ h' tk fun b o hb e => hk b o (fun q => hb (by rw [q]; exact .head _)) e
  self := fun i s Q E ⟨rest, x, _⟩ hQ => by
    have hT : s.TypeIs (.ref I) "filter" := ⟨_, x.fx, rfl⟩
    refine wpAny_pyIter_slot hT slot_filter_iter (wpAny_call_entry slot_filter_iter hT entry_filter_iter ?_ (args_filter_iter _))
    show wpAny _ _ (ret (.ref I)) _ _ s
    exact wpAny_pure ⟨_, rfl, "filter", _, hT, slot_filter_next.lookup, hQ⟩
end
end Mine
end
section
open PySem PySem.W PyProof.Rows PySem.Calls
set_option maxRecDepth 100000
set_option maxHeartbeats 400000
namespace Mine
section
variable {prog : Program} {w : World} {A : Around} {E : Value → Shared → Prop} {s : Shared}
theorem filtNew (t : Addr) (items : Array Value) :
    Meets (Builtin.«filter.__new__» ⟨[.type "filter", .builtin "len", .ref t], []⟩) (fun _ R s => s.heap.IsTuple t items ∧ R (.ok (.ret (.ref (s.heap.objs.size + 1)))) { s with heap := (s.heap.push { cls := .type "tuple_iterator", data := .fields #[.ref t, .int 0 0] }).push (filtObj s.heap.objs.size) }) := by
  refine Meets.of_wp fun prog w A R s hs => ?_
  unfold Builtin.«filter.__new__» Builtin.SmallTypes.newClass
  refine wpAny_bind ?_
  refine wpAny_bind ?_
  refine wpAny_of_eq (a := true) rfl ?_
  refine wpAny_ite_neg' (by decide) ?_
  refine wpAny_bind ?_
  refine wpAny_of_eq sub_filter ?_
  refine wpAny_ite_neg' (by decide) ?_
  refine wpAny_pure ?_
  dsimp only
  refine wpAny_bind ?_
  refine wpAny_of_eq (a := ()) rfl ?_
  refine wpAny_bind ?_
  refine wpAny_of_eq (a := ()) rfl ?_
  refine wpAny_bind ?_
  refine wpAny_pyIter_tuple hs.1 ?_
  refine wpAny_bind ?_
  unfold Builtin.SmallTypes.newRecord
  refine wpAny_newObj_type ?_ (by size_fits)
  refine wpAny_pure ⟨_, rfl, ?_⟩
  have e : (s.heap.push { cls := .type "tuple_iterator", data := .fields #[.ref t, .int 0 0] }).objs.size = s.heap.objs.size + 1 := Heap.size_push _ _
  have hr := hs.2
  rw [← e] at hr
  exact hr
/-- filter(len, t) of a tuple -/
theorem filtTuple {t : Addr} {items : Array Value} {Q : Value → Shared → Prop} (ht : s.heap.IsTuple t items)
    (h : Q (.ref (s.heap.objs.size + 1)) { s with heap := (s.heap.push { cls := .type "tuple_iterator", data := .fields #[.ref t, .int 0 0] }).push (filtObj s.heap.objs.size) }) :
    wpAny (model prog w) A (call (.type "filter") [.builtin "len", .ref t]) Q E s := by
  refine callType_new called_filter (by decide) (typeCall_filter _ _) (newCall_filter _ _) (fun obj => PySem.F.args_object_init_3 obj _ _) entry_filter_new (filtNew t items) ⟨ht, ?_⟩
  refine ⟨⟨filtObj s.heap.objs.size, ?_, rfl⟩, h⟩
  have e2 := Heap.get?_push_size (s.heap.push { cls := .type "tuple_iterator", data := .fields #[.ref t, .int 0 0] }) (o := filtObj s.heap.objs.size) rfl
  rw [Heap.size_push] at e2
  exact e2
end
end Mine
end
section
open PySem PySem.W PyProof.Rows PySem.Calls
set_option maxRecDepth 100000
set_option maxHeartbeats 400000
namespace Mine
section
variable {prog : Program} {w : World} {A : Around} {s : Shared} {mg mb : Str → Option Value} {E : Value → Shared → Prop} {Q : Value → Shared → Prop}
/-- into a function of one starred parameter -/
theorem enterV {name qual y : Str} {params : Arguments} {body : List Stmt} {scope : Scope} {dV kV doc pm cdv ct oc : Value} {an od : Option Addr} {osl : Array (Option Value)} {f : Addr} {args : List Value}
    (G : Gd w mg mb s.heap)
    (ho : (KF w).lookup f = some ⟨oc, od, .func (fnOf name qual params body scope dV kV doc pm an cdv ct), osl⟩) (hcd : codeIn (KF w) cdv qual = true) (hroom : A.depth < recursionLimit)
    (hbind : bindArgs (fnOf name qual params body scope dV kV doc pm an cdv ct) ⟨args, []⟩ = (newTuple args >>= fun t => pure [(y, t)])) (hy : scope.names.lookup y = some .local) (hlen : args.length ≤ sizeLine)
    (h : ∀ h₁, Fr (s.heap.push (tupOf args.toArray)) (s.heap.push (tupOf args.toArray)).objs.size h₁ (fun x => [(y, Value.ref s.heap.objs.size)].reverse.lookup x) →
      wpAny (model prog w) (A.deeper (envOf qual scope (s.heap.push (tupOf args.toArray)).objs.size f cdv)) (execs body (envOf qual scope (s.heap.push (tupOf args.toArray)).objs.size f cdv))
        (fun fl s' => Q (match fl with | .ret v => v | _ => .none) s') (fun _ _ => False)
        { s with heap := h₁, toks := s.toks + 1 })
    (hco : scope.isCoroutine = false := by rfl) (hgen : scope.isGenerator = false := by rfl) (hk : scope.kind = .function := by rfl)
    (hcell : ∀ x ∈ scope.names, x.2 ≠ .cell := by decide) : wpAny (model prog w) A (call (.ref f) args) Q E s := by
  refine wpAny_call ?_
  refine codeAny_call_function (fd := fnOf name qual params body scope dV kV doc pm an cdv ct) (body := body) hroom (G.K _ _ ho) rfl hco hgen rfl (codeRec_of G.K hcd) ?_
  rw [hbind]
  unfold newTuple
  refine wpAny_bind (wpAny_newObj_type ?_ (by show args.toArray.size ≤ sizeLine; rw [List.size_toArray]; exact hlen))
  refine wpAny_pure ?_
  have hl : ∀ x ∈ [(y, Value.ref s.heap.objs.size)], scope.names.lookup x.1 = some .local := fun x hx => by rw [List.mem_singleton.mp hx]; exact hy
  refine wpAny_newFunctionEnv hcell hl (fun h₀ hns₀ hsb₀ => ?_) hk
  have nl : (s.heap.push (tupOf args.toArray)).NoLimit := G.T.nolimit.keeps fun b o e => Heap.get?_push_of_some _ e
  refine ⟨nl.fresh _ hsb₀, codeAny_func ?_⟩
  refine wpAny_mono (h h₀ ⟨hns₀, fun b o e => ?_, Nat.le_refl _⟩) (fun fl s' hl => hl) fun _ _ e => e.elim
  exact hsb₀.extBut b o (Nat.ne_of_lt (Heap.lt_size e)) (Heap.get?_push_of_some _ e)
end
end Mine
end
section
open PySem PySem.W PyProof.Rows PySem.Calls
set_option maxRecDepth 100000
set_option maxHeartbeats 400000
namespace Mine
section
variable {M : Model} {A : Around} {E : Value → Shared → Prop} {s : Shared} {env : Env}
/-- e₁ and e₂, the second in the caller's logic -/
theorem andC {e₁ e₂ : Expr} {pos : Pos} {Q : Value → Shared → Prop}
    (h : wpAny M A (eval e₁ env) (fun v s₁ => wpAny M A (truthy v) (fun b s₂ => if b then wpC M A (eval e₂ env) Q E s₂ else Q v s₂) E s₁) E s) :
    wpC M A (eval (.BoolOp .And [e₁, e₂] pos) env) Q E s := by
  show wpC M A (do
    let v ← eval e₁ env
    standAt pos
    let t ← holding [v] (truthy v)
    match BoolOp.And, t with
    | .And, false | .Or, true => pure v
    | _, _ => eval e₂ env) Q E s
  refine wpC_any (wpAny_mono h (fun v s₁ h₁ => ?_) fun _ _ e => e)
  refine wpC_bind (wpC_standAt ?_)
  refine wpC_any (wpAny_holding (wpAny_mono h₁ (fun b s₂ h₂ => ?_) fun _ _ e => e))
  cases b with
  | true => exact h₂
  | false => exact wpC_pure h₂
/-- the last item of a display, in the caller's logic -/
theorem items_lastC {pos : Pos} {e : Expr} {Q : List Value → Shared → Prop} (h : wpC M A (eval e env) (fun v s₁ => Q [v] s₁) E s)
    (he : starEach [e] env = [(false, eval e env)] := by rfl) : wpC M A (spliced (backTo pos (starEach [e] env))) Q E s := by
  rw [he]
  show wpC M A (do
    let v ← eval e env
    let here ← (pure [v] : Sem (List Value))
    return here ++ (← holding here (spliced (backTo pos [])))) Q E s
  refine wpC_bind (wpC_mono h (fun v s₁ h₁ => ?_) fun _ _ e => e)
  exact wpC_of (wpAny_bind (wpAny_pure (wpAny_bind (wpAny_holding (wpAny_pure (wpAny_pure h₁))))))
theorem items_consC {pos : Pos} {e : Expr} {rest : List Expr} {Q : List Value → Shared → Prop}
    (h : wpAny M A (eval e env) (fun v s₁ => wpC M A (spliced (backTo pos (starEach rest env))) (fun vs s₂ => Q (v :: vs) s₂) E s₁) E s)
    (he : starEach (e :: rest) env = (false, eval e env) :: starEach rest env := by rfl) : wpC M A (spliced (backTo pos (starEach (e :: rest) env))) Q E s := by
  rw [he]
  show wpC M A (do
    let v ← eval e env
    let here ← (pure [v] : Sem (List Value))
    return here ++ (← holding here (spliced (backTo pos (starEach rest env))))) Q E s
  refine wpC_any (wpAny_mono h (fun v s₁ h₁ => ?_) fun _ _ e => e)
  refine wpC_bind (wpC_pure ?_)
  refine wpC_bind (wpC_holding (wpC_mono h₁ (fun vs s₂ h₂ => ?_) fun _ _ e => e))
  exact wpC_pure h₂
theorem TupleC {elts : List Expr} {k : Nat} {pos : Pos} {Q : Value → Shared → Prop}
    (h : wpC M A (spliced (backTo pos (starEach elts env))) (fun vs s₁ => wpAny M A (newTuple vs) Q E s₁) E s) : wpC M A (eval (.Tuple elts k pos) env) Q E s := by
  show wpC M A (do standAt pos; newTuple (← spliced (backTo pos (starEach elts env)))) Q E s
  refine wpC_bind (wpC_standAt ?_)
  exact wpC_bind (wpC_mono h (fun vs s₁ h₁ => wpC_of h₁) fun _ _ e => e)
end
end Mine
end
section
open PySem PySem.W PyProof.Rows PySem.Calls
set_option maxRecDepth 100000
set_option maxHeartbeats 400000
namespace Mine
/-! ## split is the inverse of join -/
theorem join_cons (y p q : Str) (l : List Str) : (Str.join y (p :: q :: l)).cps.toList = p.cps.toList ++ y.cps.toList ++ (Str.join y (q :: l)).cps.toList := by
  show (p ++ y ++ Str.join y (q :: l)).cps.toList = _
  rw [Str.cps_append, Str.cps_append, Array.toList_append, Array.toList_append]
theorem free_cut {c : Nat} {a b a' b' : List Nat} (h : c ∉ a) (h' : c ∉ a') (e : a ++ [c] ++ b = a' ++ [c] ++ b') : a = a' ∧ b = b' := by
  induction a generalizing a' with
  | nil => cases a' with
    | nil => exact ⟨rfl, by simpa using e⟩
    | cons x a' =>
      simp only [List.nil_append, List.cons_append, List.cons.injEq] at e
      exact absurd (e.1 ▸ List.mem_cons_self) h'
  | cons x a ih => cases a' with
    | nil =>
      simp only [List.nil_append, List.cons_append, List.cons.injEq] at e
      exact absurd (e.1 ▸ List.mem_cons_self) h
    | cons x' a' =>
      simp only [List.cons_append, List.cons.injEq] at e
      obtain ⟨h1, h2⟩ := ih (fun m => h (List.mem_cons_of_mem _ m)) (fun m => h' (List.mem_cons_of_mem _ m)) e.2
      exact ⟨by rw [e.1, h1], h2⟩
theorem str_ext {a b : Str} (h : a.cps.toList = b.cps.toList) : a = b := Str.ext' (Array.toList_inj.mp h)
theorem join_inj (c : Nat) : ∀ (l l' : List Str) (p p' : Str), (∀ q ∈ p :: l, c ∉ q.cps.toList) → (∀ q ∈ p' :: l', c ∉ q.cps.toList) → Str.join ⟨#[c]⟩ (p :: l) = Str.join ⟨#[c]⟩ (p' :: l') → p :: l = p' :: l'
  | [], [], p, p', _, _, e => by rw [show p = p' from e]
  | [], q' :: l', p, p', h, _, e => by
    have e := congrArg (fun x : Str => x.cps.toList) e
    rw [join_cons] at e
    have : c ∈ p.cps.toList := by
      have e2 : p.cps.toList = p'.cps.toList ++ [c] ++ _ := e
      rw [e2]; simp
    exact absurd this (h p List.mem_cons_self)
  | q :: l, [], p, p', _, h', e => by
    have e := congrArg (fun x : Str => x.cps.toList) e
    rw [join_cons] at e
    have : c ∈ p'.cps.toList := by
      have e2 : p.cps.toList ++ [c] ++ _ = p'.cps.toList := e
      rw [← e2]; simp
    exact absurd this (h' p' List.mem_cons_self)
  | q :: l, q' :: l', p, p', h, h', e => by
    have e := congrArg (fun x : Str => x.cps.toList) e
    rw [join_cons, join_cons] at e
    obtain ⟨h1, h2⟩ := free_cut (h p List.mem_cons_self) (h' p' List.mem_cons_self) e
    rw [str_ext h1, join_inj c l l' q q' (fun x m => h x (List.mem_cons_of_mem _ m)) (fun x m => h' x (List.mem_cons_of_mem _ m)) (str_ext h2)]
theorem split_ne (x y : Str) : ∃ p l, Txt.split x y = p :: l := by
  unfold Txt.split
  split
  · exact ⟨_, _, rfl⟩
  · split
    · exact ⟨_, _, rfl⟩
    · rw [StrLaws.partsBetween_eq]; exact StrLaws.partsFrom_ne _ _ _ _
theorem split_join (c : Nat) (l : List Str) (hl : l ≠ []) (h : ∀ q ∈ l, c ∉ q.cps.toList) : Txt.split (Str.join ⟨#[c]⟩ l) ⟨#[c]⟩ = l := by
  cases l with
  | nil => exact absurd rfl hl
  | cons p l =>
    obtain ⟨p', l', e⟩ := split_ne (Str.join ⟨#[c]⟩ (p :: l)) ⟨#[c]⟩
    have h1 := StrLaws.split_free (Str.join ⟨#[c]⟩ (p :: l)) c
    have h2 := StrLaws.join_split (Str.join ⟨#[c]⟩ (p :: l)) ⟨#[c]⟩
    rw [e] at h1 h2 ⊢
    exact join_inj c l' l p' p h1 h h2
theorem txt_join (sep : Str) (l : List Str) : Txt.join sep l = Str.join sep l := StrLaws.glued_eq_join sep l
end Mine
end
section
open PySem PySem.W PyProof.Rows PySem.Calls
set_option maxRecDepth 100000
set_option maxHeartbeats 400000
namespace Mine
/-! ## replace, as two joins of the same pieces -/
theorem repl_parts (x y z : Str) : ∃ p l, x = Str.join y (p :: l) ∧ Txt.replace x y z = Str.join z (p :: l) := by
  unfold Txt.replace
  by_cases h : ((Builtin.Str.occurrences x y 0 x.length (x.length + 1)).isEmpty || (y.length == 0 && z.length == 0)) = true
  · rw [if_pos h]; exact ⟨x, [], rfl, rfl⟩
  · rw [if_neg h]
    obtain ⟨f, hc⟩ := StrLaws.occ_chain x y (x.length + 1)
    have e := StrLaws.join_partsFrom x y _ 0 f hc
    rw [StrLaws.sub_whole, ← StrLaws.partsBetween_eq] at e
    obtain ⟨p, l, hp⟩ := StrLaws.partsFrom_ne x y.length 0 (Builtin.Str.occurrences x y 0 x.length (x.length + 1))
    rw [← StrLaws.partsBetween_eq] at hp
    rw [hp] at e
    exact ⟨p, l, e.symm, by rw [hp, StrLaws.glued_eq_join]⟩
theorem join_len (y : Str) : ∀ (l : List Str) (p : Str), (Str.join y (p :: l)).length = p.length + (l.map (·.length)).sum + l.length * y.length
  | [], p => by show p.length = _; simp
  | q :: l, p => by
    show (p ++ y ++ Str.join y (q :: l)).length = _
    rw [Str.length_append, Str.length_append, join_len y l q]
    simp only [List.map_cons, List.sum_cons, List.length_cons, Nat.succ_mul]
    omega
theorem repl_len (x y z : Str) (h : z.length ≤ y.length) : (Txt.replace x y z).length ≤ x.length := by
  obtain ⟨p, l, e1, e2⟩ := repl_parts x y z
  rw [e2, e1, join_len, join_len]
  have := Nat.mul_le_mul_left l.length h
  omega
theorem repl_lt (x y z : Str) (h : z.length < y.length) (hne : Txt.replace x y z ≠ x) : (Txt.replace x y z).length < x.length := by
  obtain ⟨p, l, e1, e2⟩ := repl_parts x y z
  cases l with
  | nil => exact absurd (e2.trans e1.symm) hne
  | cons q l =>
    rw [e2, e1, join_len, join_len]
    have h1 : (q :: l).length * z.length < (q :: l).length * y.length := Nat.mul_lt_mul_of_pos_left h (Nat.succ_pos _)
    omega
/-- what comes of a text by taking double strokes and strokes at the end away -/
inductive Red (a : Str) : Str → Prop
  | refl : Red a a
  | dash {b} : Red a b → Red a (Txt.replace b "--" "-")
  | last {b} : Red a b → 0 < b.length → b.cps[b.length - 1]? = some 45 → Red a (Txt.slice b none (some (-1)))
theorem Red.len {a b : Str} (h : Red a b) : b.length ≤ a.length := by
  induction h with
  | refl => exact Nat.le_refl _
  | dash _ ih => exact Nat.le_trans (repl_len _ _ _ (by decide)) ih
  | last _ _ _ ih => exact Nat.le_trans (Txt.slice_le _ _ _) ih
def subs (x : Str) : Str :=
  let x := Txt.replace x " " "_"
  let x := Txt.replace x "/" "-"
  let x := Txt.replace x "\\" "-"
  let x := Txt.replace x ":" "-"
  let x := Txt.replace x ";" "-"
  let x := Txt.replace x "\"" "-"
  let x := Txt.replace x "(" "-"
  let x := Txt.replace x ")" "-"
  Txt.replace x "unknown" ""
/-- the texts of _platform's arguments that are not empty, stripped, a stroke between -/
def pfName (x1 x2 x3 : Str) : Str := Txt.join "-" ((([x1, x2, x3] : List Str).filter fun x => !(x.length == 0)).map Txt.strip)
theorem slice_last (b : Str) (h : 0 < b.length) : Txt.slice b none (some (-1)) = ⟨(b.cps.toList.take (b.length - 1)).toArray⟩ := by
  have e := StrLaws.sliceText_to_neg (x := b) (j := -1) (by decide) (by omega)
  have e2 : Txt.slice b none (some (-1)) = StrLaws.sliceText b none (some (-1)) := rfl
  rw [e2, e]
  congr 3
  simp
  omega
end Mine
end
section
open PySem PySem.W PyProof.Rows PySem.Calls
set_option maxRecDepth 100000
set_option maxHeartbeats 400000
namespace Mine
/-! ## the walk of _platform: its code table, its frame -/
section
variable {M : Model} {A : Around} {E : Value → Shared → Prop} {s : Shared}
theorem genCode {env : Env} {c P L : Addr} {ps : Array Value} {h₁ h₀ : Heap} {m : Str → Option Value} {pos : Pos} {qualname : Str} {scope : Scope} {Q : Value → Shared → Prop}
    (hc : env.code = .ref c) (B : Based h₁ h₀ c P ps) (F : Fr h₀ L s.heap m)
    (hQ : ∀ code h' tk ps', (∃ more, ps' = ps ++ more) → Based h₁ (regrown h₀ P ps') c P ps' → Fr (regrown h₀ P ps') L h' m → Heap.ExtBut P s.heap h' → s.heap.objs.size ≤ h'.objs.size → Q code { s with heap := h', toks := tk }) :
    wpAny M A (genexprCode env pos qualname scope) Q E s := by
  cases hnf : codeAmong pos ps.toList with
  | none =>
    refine wpAny_genexprCodeX hc (B.codeAt F) (B.tabAt F) hnf fun c' h' tk hx hge hlt hcode _ htab _ => ?_
    obtain ⟨B', F'⟩ := B.grow F hx hcode htab
    exact hQ _ h' tk _ ⟨_, rfl⟩ B' F' hx (Nat.le_trans hge (Nat.le_of_lt hlt))
  | some cv =>
    have hok := B.codeAt F
    have htab := B.tabAt F
    obtain ⟨B', F'⟩ := B.grow (more := #[]) F (Heap.ExtBut.refl _ _) (by rw [Array.append_empty]; exact hok) (by rw [Array.append_empty]; exact htab)
    have hQ' := hQ cv s.heap s.toks _ ⟨_, rfl⟩ B' F' (Heap.ExtBut.refl _ _) (Nat.le_refl _)
    obtain ⟨o, vs, file, tf, flags, tg, inF, text, tt, op, ho, hd, h11, h2, h7, h9, h10, hop, hpd, htr, hne⟩ := hok
    unfold genexprCode codeAt
    rw [hc, if_neg (show ¬ ((Value.ref c == Value.none) = true) from Bool.false_ne_true)]
    refine wpAny_bind (wpAny_fieldsOf ho hd ?_)
    rw [h11]
    refine wpAny_bind (wpAny_fieldsOf hop hpd ?_)
    rw [hnf]
    exact wpAny_pure hQ'
end
section
variable {prog : Program} {w : World} {A : Around} {E : Value → Shared → Prop} {env : Env} {L : Addr} {h₀ : Heap} {m : Str → Option Value} {s : Shared}
/-- x[-j] of a text -/
theorem itemS {value slice : Expr} {x : Str} {t u : Tok} {i : Int} {c : Nat} {Q : Value → Shared → Prop} (hi : -1000 ≤ i ∧ i < 1000) (hc : (seqIndex? i x.length).bind (x.cps[·]?) = some c)
    (h : Q (.str ⟨#[c]⟩ s.toks) { s with toks := s.toks + 1 }) (hs : subscripted slice false (.str x t) (.int i u) = operate [.str x t, .int i u] (getItem (.str x t) (.int i u)) := by with_unfolding_all rfl) :
    wpAny (model prog w) A (subscriptTail value slice (.str x t) (.int i u)) Q E s :=
  tail_any (typeIs_str _ _ _) F.slot_str_getitem.lookup (PySem.P.getItem_str (by simp; omega) hc h) hs
/-- x[:-j] of a text -/
theorem cutN {value : Expr} {j : Int} {k : Nat} {x : Str} {p p' p2 pos : Pos} {h' : Heap} {Q : Value → Shared → Prop} (_ : Fr h₀ L h' m)
    (hv : wpAny (model prog w) A (eval value env) (fun o s₁ => ∃ t, o = .str x t ∧ Fr h₀ L s₁.heap m ∧ ∀ t' s', Qf h₀ L m s₁ s' → Q (.str (Txt.slice x none (some (-j))) t') s') E s) (hx : x.length ≤ sizeLine) :
    wpAny (model prog w) A (eval (.Subscript value (.Slice none (some (.UnaryOp .USub (.Constant (.int j) k p) p2)) none p') pos) env) Q E s := by
  refine PyProof.Rows.Subscript_ (wpAny_mono hv (fun o s₁ h₁ => ?_) fun _ _ e => e)
  obtain ⟨t, rfl, F, hQ⟩ := h₁
  refine wpAny_Slice ?_
  refine wpAny_of_eq (evalPart_none env) ?_
  show wpAny (model prog w) A (eval (.UnaryOp .USub (.Constant (.int j) k p) p2) env) _ E s₁
  refine wpAny_UnaryOp ?_
  refine wpAny_Constant_int ?_
  refine PyProof.Rows.neg_int ?_
  refine wpAny_of_eq (evalPart_none env) ?_
  obtain ⟨T, id, hl, hT, hg⟩ := SBH.sliceItem_ns (prog := prog) (w := w) (A := A) (E := E) (t := t) (uj := s₁.toks + 1) (j := -j) (Q := Q) (s := { s₁ with toks := s₁.toks + 1 + 1 }) (P := fun h => (∀ b o, s₁.heap.get? b = some o → h.get? b = some o) ∧ Fr h₀ L h m ∧ s₁.heap.objs.size ≤ h.objs.size)
    (fun h ob ⟨h1, h2, h3⟩ => ⟨fun b o e => Heap.get?_push_of_some _ (h1 b o e), h2.push _, by rw [Heap.size_push]; exact Nat.le_succ_of_le h3⟩) ⟨fun _ _ e => e, F, Nat.le_refl _⟩ (fun h' t' k P => hQ t' _ ⟨⟨P.1, rfl, rfl⟩, P.2.1, P.2.2⟩) hx
  exact tail_any hT hl hg (by with_unfolding_all rfl)
theorem at_last (x : Str) (h : 0 < x.length) : ∃ c, (seqIndex? (-1) x.length).bind (x.cps[·]?) = some c ∧ x.cps[x.length - 1]? = some c := by
  have e : x.cps[x.length - 1]? = some (x.cps[x.length - 1]'(by show x.length - 1 < x.length; omega)) := Array.getElem?_eq_getElem _
  refine ⟨_, StrLaws.at_neg (by decide) (by omega) ?_, e⟩
  rw [show (((-1 : Int) + x.length).toNat) = x.length - 1 from by omega]
  exact e
end
/-- in the frame of _platform, behind the first line -/
structure Pz (h₀ : Heap) (L : Addr) (g : Array GenState) (o : OsState) (m : Str → Option Value) (s : Shared) : Prop where
  F : Fr h₀ L s.heap m
  gens : s.gens = g
  os : s.os = o
  toks : 1 ≤ s.toks
section
variable {prog : Program} {w : World} {A : Around} {E : Value → Shared → Prop} {s : Shared} {h₀ : Heap} {L a : Addr} {g : Array GenState} {o : OsState} {m : Str → Option Value} {name : Str} {scope : Scope} {cd : Value}
theorem stT {x : Str} {v : Value} {Q : Unit → Shared → Prop} (F : Fr h₀ L s.heap m) (hg : s.gens = g) (ho : s.os = o)
    (h : ∀ s', Pz h₀ L g o (fun y => if y = x then some v else m y) s' → Q () s')
    (hk : scope.kind = .function := by rfl) (hl : (envOf name scope L a cd).kindOf x = some .local := by rfl) :
    wpAny (model prog w) A (storeName (envOf name scope L a cd) x v) Q E s :=
  wpAny_storeName_local hl F.ns (fun h' hn hs => h _ ⟨F.set hn hs, hg, ho, Nat.succ_le_succ (Nat.zero_le _)⟩)
    (by show (scope.kind == .class || (scope.kind == .module && L != mainGlobals)) = false; rw [hk]; rfl)
theorem stTM {x : Str} {v : Value} {Q : Unit → Shared → Prop} (F : Fr h₀ L s.heap m) (hg : s.gens = g) (ho : s.os = o)
    (h : ∀ m' s', m' x = some v → (∀ y, y ≠ x → m' y = m y) → Pz h₀ L g o m' s' → Q () s')
    (hk : scope.kind = .function := by rfl) (hl : (envOf name scope L a cd).kindOf x = some .local := by rfl) :
    wpAny (model prog w) A (storeName (envOf name scope L a cd) x v) Q E s :=
  stT F hg ho (fun s' Z => h _ s' (if_pos rfl) (fun _ hy => if_neg hy) Z) hk hl
end
end Mine
end
section
open PySem PySem.W PyProof.Rows PySem.Calls
set_option maxRecDepth 100000
set_option maxHeartbeats 4000000
namespace Mine
abbrev pfArgs (x1 x2 x3 : Str) (t1 t2 t3 : Tok) : List (Str × Tok) := [(x1, t1), (x2, t2), (x3, t3)]
theorem full_args (x1 x2 x3 : Str) (t1 t2 t3 : Tok) : (full (pfArgs x1 x2 x3 t1 t2 t3)).map (·.1) = ([x1, x2, x3] : List Str).filter fun x => !(x.length == 0) := by
  have : ∀ l : List (Str × Tok), (full l).map (·.1) = (l.map (·.1)).filter fun x => !(x.length == 0) := by
    intro l
    induction l with
    | nil => rfl
    | cons p l ih =>
      unfold full at ih ⊢
      rw [List.filter_cons, List.map_cons, List.filter_cons]
      show _ = if (!(p.1.length == 0)) = true then _ else _
      have : (!emp p) = (!(p.1.length == 0)) := rfl
      rw [this]
      split
      · rw [List.map_cons, ih]
      · exact ih
  exact this _
theorem tupKeep {h h' : Heap} {a : Addr} {xs : Array Value} (x : h.IsTuple a xs) (k : ∀ b o, h.get? b = some o → h'.get? b = some o) : h'.IsTuple a xs :=
  let ⟨o, a, b⟩ := x; ⟨o, k _ _ a, b⟩
section
variable {prog : Program} {w : World} {A : Around} {s : Shared} {mg mb : Str → Option Value} {E : Value → Shared → Prop} {Q : Value → Shared → Prop}
theorem pf_spec {P bm : Addr} {ob : Obj} {ps : Array Value} {x1 x2 x3 : Str} {t1 t2 t3 : Tok}
    (G : Gd w mg mb s.heap) (hc : s.heap.IsCode 65 P ps) (ht : s.heap.TableAt 65 P ps) (hP : P ≠ cStatics) (Mb : BMod s.heap mainGlobals mg bm ob) (hb : AllBare s.gens) (hd : A.depth < 500) (hh : A.handled = none)
    (hw1 : x1.length ≤ 600) (hw2 : x2.length ≤ 600) (hw3 : x3.length ≤ 600)
    (h : ∀ x t s' ps', Red (subs (pfName x1 x2 x3)) x → Heap.ExtBut P s.heap s'.heap → s'.heap.IsCode 65 P ps' → s'.heap.TableAt 65 P ps' → (∃ more, ps' = ps ++ more) → AllBare s'.gens → s'.os = s.os → Q (.str x t) s') :
    wpAny (model prog w) A (call (.ref 66) [.str x1 t1, .str x2 t2, .str x3 t3]) Q E s := by
  have M := G.nm
  refine enterV (y := "args") G rfl rfl (by unfold recursionLimit; omega) rfl rfl ?_ ?_
  · rw [sizeLine_eq]; simp
  intro h₁ F
  have hkp : ∀ b o, s.heap.get? b = some o → (s.heap.push (tupOf #[Value.str x1 t1, Value.str x2 t2, Value.str x3 t3])).get? b = some o := fun b o e => Heap.get?_push_of_some _ e
  have hT : (s.heap.push (tupOf #[Value.str x1 t1, Value.str x2 t2, Value.str x3 t3])).IsTuple s.heap.objs.size (strValues (pfArgs x1 x2 x3 t1 t2 t3)).toArray := ⟨_, Heap.get?_push_size _ rfl, rfl, _, rfl⟩
  have B : Based (s.heap.push (tupOf #[Value.str x1 t1, Value.str x2 t2, Value.str x3 t3])) (s.heap.push (tupOf #[Value.str x1 t1, Value.str x2 t2, Value.str x3 t3])) 65 P ps := .start (hc.keeps hkp) (ht.keeps hkp) hP
  have Mb' := Mb.keeps hkp
  have G' := G.keeps hkp
  have hP' : P < s.heap.objs.size := Heap.lt_size ht.2
  revert F hT B Mb' G' hkp
  generalize s.heap.push (tupOf #[Value.str x1 t1, Value.str x2 t2, Value.str x3 t3]) = h₀
  intro F hkp hT B Mb' G'
  refine wpAny_execs_cons ?_
  refine wpAny_Assign_Name ?_
  refine MethodCall_ ?_
  refine wpAny_Constant_str ?_
  with_reducible refine GM.join ?_
  refine callWith_method1 ?_
  refine args_cons ?_
  refine wpAny_GeneratorExp_walksQD hh rfl rfl (by decide) rfl rfl rfl (by show A.depth + 1 < _; unfold recursionLimit; omega) ?_ (fun _ => rfl)
  refine Call_ ?_
  refine ld_builtin_at F G'.T.g M.gfilter G'.T.b M.bfilter ?_
  refine PyProof.Rows.callWith_type1 ?_
  refine args_cons ?_
  refine ld_builtin_at F G'.T.g M.glen G'.T.b M.blen ?_
  refine args_cons ?_
  refine ld F rfl ?_
  refine args_nil ?_
  refine filtTuple (tupKeep hT F.keep) ?_
  have hT₁ := tupKeep hT F.keep
  have F₂ := (F.push { cls := .type "tuple_iterator", data := .fields #[.ref s.heap.objs.size, .int 0 0] }).push (filtObj h₁.objs.size)
  have sz₂ : ((h₁.push { cls := .type "tuple_iterator", data := .fields #[.ref s.heap.objs.size, .int 0 0] }).push (filtObj h₁.objs.size)).objs.size = h₁.objs.size + 2 := by rw [Heap.size_push, Heap.size_push]
  have hfl : Fl (h₁.objs.size + 1) h₁.objs.size s.heap.objs.size (pfArgs x1 x2 x3 t1 t2 t3) (pfArgs x1 x2 x3 t1 t2 t3) ((h₁.push { cls := .type "tuple_iterator", data := .fields #[.ref s.heap.objs.size, .int 0 0] }).push (filtObj h₁.objs.size)) := by
    have e2 := Heap.get?_push_size (h₁.push { cls := .type "tuple_iterator", data := .fields #[.ref s.heap.objs.size, .int 0 0] }) (o := filtObj h₁.objs.size) rfl
    rw [Heap.size_push] at e2
    refine ⟨e2, ⟨0, ⟨_, Heap.get?_push_of_some _ (Heap.get?_push_size _ rfl), rfl, rfl⟩, rfl⟩, tupKeep hT₁ fun b o e => Heap.get?_push_of_some _ (Heap.get?_push_of_some _ e), Nat.succ_ne_self _, ?_⟩
    obtain ⟨o, e, _⟩ := hT₁
    exact Nat.ne_of_lt (Heap.lt_size e)
  have hk₂ : ∀ b o, h₁.get? b = some o → ((h₁.push { cls := .type "tuple_iterator", data := .fields #[.ref s.heap.objs.size, .int 0 0] }).push (filtObj h₁.objs.size)).get? b = some o := fun b o e => Heap.get?_push_of_some _ (Heap.get?_push_of_some _ e)
  dsimp only
  revert F₂ sz₂ hfl hk₂
  generalize ((h₁.push { cls := .type "tuple_iterator", data := .fields #[.ref s.heap.objs.size, .int 0 0] }).push (filtObj h₁.objs.size)) = h₂
  intro F₂ sz₂ hfl hk₂
  have hz : ∀ p ∈ pfArgs x1 x2 x3 t1 t2 t3, p.1.length ≤ 100000 := by
    intro p hp
    simp only [List.mem_cons, List.not_mem_nil, or_false] at hp
    rcases hp with rfl | rfl | rfl <;> dsimp only <;> omega
  refine (flt_walks (xs := pfArgs x1 x2 x3 t1 t2 t3) (A := A.deeper _) hh hz).self 0 _ _ _ ⟨_, hfl, rfl⟩ ?_
  refine ⟨(G'.T.nolimit.keeps F.keep).keeps hk₂, ?_⟩
  refine genCode rfl B F₂ fun code h₃ tk₃ ps' hmore B' F₃ hx₃ hsz₃ => ?_
  have Mb₃ := (Mb'.regrown (ps' := ps') B).keeps F₃.keep
  refine wpAny_builtinsFor Mb₃.ns Mb₃.name Mb₃.ne Mb₃.obj Mb₃.cls Mb₃.dict Mb₃.data ?_
  dsimp only
  have hps : passing (fun _ => true) (full (pfArgs x1 x2 x3 t1 t2 t3)).length 0 = List.range (full (pfArgs x1 x2 x3 t1 t2 t3)).length := by simp [passing]
  have hlt₁ : @LT.lt Nat instLTNat h₀.objs.size h₁.objs.size := F.ns.lt
  have hT₀ : @LT.lt Nat instLTNat s.heap.objs.size h₀.objs.size := by obtain ⟨o, e, _⟩ := hT; exact Heap.lt_size e
  have hPT : s.heap.objs.size ≠ P := fun e => by
    obtain ⟨o, e1, e2, _⟩ := hT
    rw [e, B.tab.2] at e1; cases e1; cases e2
  have hfl₃ : Fl (h₁.objs.size + 1) h₁.objs.size s.heap.objs.size (pfArgs x1 x2 x3 t1 t2 t3) (pfArgs x1 x2 x3 t1 t2 t3) h₃ := hfl.keep fun b o hb e => hx₃ b o (by
    have hP'' : @LT.lt Nat instLTNat P s.heap.objs.size := hP'
    rcases hb with rfl | rfl | rfl
    · exact addr_ne (.inr (by omega))
    · exact addr_ne (.inr (by omega))
    · exact hPT) e
  have hsz₃' : @LE.le Nat instLENat (h₁.objs.size + 2) h₃.objs.size := sz₂ ▸ hsz₃
  have hst : cStatics < s.heap.objs.size := let ⟨_, hn, _⟩ := G.T.nolimit; hn.lt
  have hcP : cStatics ≠ P := hP.symm
  refine ⟨h₁.objs.size + 1, [h₁.objs.size + 1, h₁.objs.size, s.heap.objs.size], [h₁.objs.size], (full (pfArgs x1 x2 x3 t1 t2 t3)).length, _, _, fun _ => true,
    fun i y => ∃ p u, (full (pfArgs x1 x2 x3 t1 t2 t3))[i]? = some p ∧ y = .str (Txt.strip p.1) u, rfl, fun A' hA => flt_walks hA hz, ⟨_, hfl₃, rfl⟩, ?_, (G'.T.nolimit.keeps fun b o e => hk₂ b o (F.keep b o e)).extBut hx₃ hcP, ?_, ?_, ?_⟩
  · intro b hb
    simp only [List.mem_cons, List.not_mem_nil, or_false] at hb
    show @LT.lt Nat instLTNat b h₃.objs.size
    rcases hb with rfl | rfl | rfl
    · omega
    · omega
    · omega
  · intro hm
    rw [List.mem_singleton] at hm
    have hst' : @LT.lt Nat instLTNat cStatics s.heap.objs.size := hst
    exact absurd hm (addr_ne (.inl (by omega)))
  · intro href hk
    refine ⟨fun A' E' i v s₂ m₂ hA hD hU hPv hn hm hkeep => ?_, fun A' E' i v s₂ m₂ hA hD hU hPv _ hn hm hkeep => ?_⟩
    · exact wpAny_pure ⟨rfl, s₂.heap, s₂.toks, rfl, fun _ _ e => e⟩
    · obtain ⟨p, hp, rfl⟩ := hPv
      refine MethodCall_ ?_
      refine wpAny_Name (wpAny_loadName_local rfl rfl hn hm ?_) (by decide)
      with_reducible refine GM.strip ?_
      refine callWith_method0 ?_
      refine SC.strip ?_ ?_
      · intro t' k
        exact ⟨⟨p, t', hp, rfl⟩, s₂.heap, k, rfl, fun _ _ e => e⟩
      · have := hz p ((List.mem_filter.mp (List.mem_of_getElem? hp)).1)
        rw [sizeLine_eq]; omega
  · intro a h₅ tk gs hgs ha hs₅ hk₅ W hat
    have hjl : (full (pfArgs x1 x2 x3 t1 t2 t3)).length ≤ 3 := List.length_filter_le _ _
    rw [hps] at W
    refine args_nil ?_
    refine SC.joinGen W.in4_2 (fun i s' st => st.1.typeIs) hat ?_ (.head _) (fun i v hv => ?_) ?_ ?_
    · intro b hb
      show @LT.lt Nat instLTNat b h₅.objs.size
      have ha' : @LT.lt Nat instLTNat h₃.objs.size a := ha
      rcases List.mem_cons.mp hb with rfl | hb
      · omega
      rcases List.mem_cons.mp hb with rfl | hb
      · omega
      · have := List.mem_range.mp hb
        omega
    · obtain ⟨i', _, p, u, _, rfl⟩ := hv
      exact ⟨_, u, rfl⟩
    · intro s₆ l hm hacc
      have hl : l.map (·.1) = (full (pfArgs x1 x2 x3 t1 t2 t3)).map fun p => Txt.strip p.1 := by
        apply List.ext_getElem?
        intro j
        have hsz : l.length = (full (pfArgs x1 x2 x3 t1 t2 t3)).length := by simpa [strValues] using hacc.1
        rw [List.getElem?_map, List.getElem?_map]
        by_cases hj : j < l.length
        · obtain ⟨i', hi', p, u, hp, hv⟩ := hacc.2 j (.str l[j].1 l[j].2) (by simp [strValues, List.getElem?_eq_getElem hj])
          have : i' = j := by
            have := List.getElem?_eq_some_iff.mp hi'
            obtain ⟨h1, h2⟩ := this
            rw [List.getElem_range] at h2
            exact h2.symm
          subst this
          injection hv with h1 h2
          rw [hp, List.getElem?_eq_getElem hj]
          simp [h1]
        · rw [List.getElem?_eq_none (by omega), List.getElem?_eq_none (by omega)]
          rfl
      have F₅ : Fr (regrown h₀ P ps') h₀.objs.size h₅ _ := F₃.keeps hk₅
      have F₆ := F₅.moved hm (fun b hb => by
        show @LT.lt Nat instLTNat h₀.objs.size b
        rcases List.mem_cons.mp hb with rfl | hb
        · omega
        · rw [List.mem_singleton.mp hb]; exact hlt₁)
      have g₆ : AllBare s₆.gens := AllBare.movedS (s := { heap := h₅, gens := s.gens.push gs, drawn := s.drawn, toks := tk, os := s.os }) (hb.push hgs) hm
      have o₆ : s₆.os = s.os := hm.os
      have hll : l.length ≤ 3 := by
        have := congrArg List.length hl
        rw [List.length_map, List.length_map] at this
        omega
      have hjw : ((l.map (·.1)).map (·.length)).sum ≤ 3 * 600 := by
        refine Nat.le_trans (StrLaws.sumLen_le (B := 600) (l.map (·.1)) fun y hy => ?_) (by rw [List.length_map]; exact Nat.mul_le_mul_right _ hll)
        rw [hl] at hy
        obtain ⟨p, hp, rfl⟩ := List.mem_map.mp hy
        refine Nat.le_trans (len_strip _) ?_
        have hp := (List.mem_filter.mp hp).1
        simp only [List.mem_cons, List.not_mem_nil, or_false] at hp
        rcases hp with rfl | rfl | rfl <;> assumption
      have hname : Txt.join "-" (l.map (·.1)) = pfName x1 x2 x3 := by
        unfold pfName
        rw [hl, ← full_args x1 x2 x3 t1 t2 t3, List.map_map]; rfl
      refine ⟨joinOk_of_weight (by rw [List.length_map]; omega) (by decide), fun t' k => ?_⟩
      rw [hname]
      have hnl : (pfName x1 x2 x3).length ≤ 2000 := by
        rw [← hname]
        show (Builtin.Str.glued "-" (l.map (·.1))).length ≤ 2000
        rw [StrLaws.glued_eq_join]
        have := StrLaws.join_length_le "-" (l.map (·.1))
        have e1 : (Str.ofString "-").length = 1 := rfl
        rw [List.length_map, e1] at this
        omega
      generalize pfName x1 x2 x3 = x0 at hnl h
      clear hl hname hjw
      refine stTM (s := { s₆ with toks := k }) F₆ rfl o₆ fun m₇ s₇ hm₇ _ Z₇ => ?_
      refine wpAny_execs_cons ?_
      refine wpAny_Assign_Name ?_
      refine MethodCall_ ?_
      refine ld Z₇.F hm₇ ?_
      with_reducible refine GM.replace ?_
      refine callWith_method1 ?_
      refine args_cons ?_
      refine wpAny_Constant_str ?_
      refine args_cons ?_
      refine wpAny_Constant_str ?_
      refine args_nil ?_
      refine SC.replaceW (Nat.ne_of_gt Z₇.toks) (Nat.succ_ne_zero _) (Nat.ne_of_lt (Nat.lt_succ_self _)) (by decide) (by omega) (by decide) ?_
      intro t0 k0
      have hl0 := Nat.le_trans (repl_len _ " " "_" (by decide)) hnl
      refine stTM Z₇.F Z₇.gens Z₇.os fun mm0 y0 hm0 _ Y0 => ?_
      dsimp only
      refine wpAny_execs_cons ?_
      refine wpAny_Assign_Name ?_
      refine MethodCall_ ?_
      refine ld Y0.F hm0 ?_
      with_reducible refine GM.replace ?_
      refine callWith_method1 ?_
      refine args_cons ?_
      refine wpAny_Constant_str ?_
      refine args_cons ?_
      refine wpAny_Constant_str ?_
      refine args_nil ?_
      refine SC.replaceW (Nat.ne_of_gt Y0.toks) (Nat.succ_ne_zero _) (Nat.ne_of_lt (Nat.lt_succ_self _)) (by decide) (by omega) (by decide) ?_
      intro t1 k1
      have hl1 := Nat.le_trans (repl_len _ "/" "-" (by decide)) hl0
      refine stTM Y0.F Y0.gens Y0.os fun mm1 y1 hm1 _ Y1 => ?_
      dsimp only
      refine wpAny_execs_cons ?_
      refine wpAny_Assign_Name ?_
      refine MethodCall_ ?_
      refine ld Y1.F hm1 ?_
      with_reducible refine GM.replace ?_
      refine callWith_method1 ?_
      refine args_cons ?_
      refine wpAny_Constant_str ?_
      refine args_cons ?_
      refine wpAny_Constant_str ?_
      refine args_nil ?_
      refine SC.replaceW (Nat.ne_of_gt Y1.toks) (Nat.succ_ne_zero _) (Nat.ne_of_lt (Nat.lt_succ_self _)) (by decide) (by omega) (by decide) ?_
      intro t2 k2
      have hl2 := Nat.le_trans (repl_len _ "\\" "-" (by decide)) hl1
      refine stTM Y1.F Y1.gens Y1.os fun mm2 y2 hm2 _ Y2 => ?_
      dsimp only
      refine wpAny_execs_cons ?_
      refine wpAny_Assign_Name ?_
      refine MethodCall_ ?_
      refine ld Y2.F hm2 ?_
      with_reducible refine GM.replace ?_
      refine callWith_method1 ?_
      refine args_cons ?_
      refine wpAny_Constant_str ?_
      refine args_cons ?_
      refine wpAny_Constant_str ?_
      refine args_nil ?_
      refine SC.replaceW (Nat.ne_of_gt Y2.toks) (Nat.succ_ne_zero _) (Nat.ne_of_lt (Nat.lt_succ_self _)) (by decide) (by omega) (by decide) ?_
      intro t3 k3
      have hl3 := Nat.le_trans (repl_len _ ":" "-" (by decide)) hl2
      refine stTM Y2.F Y2.gens Y2.os fun mm3 y3 hm3 _ Y3 => ?_
      dsimp only
      refine wpAny_execs_cons ?_
      refine wpAny_Assign_Name ?_
      refine MethodCall_ ?_
      refine ld Y3.F hm3 ?_
      with_reducible refine GM.replace ?_
      refine callWith_method1 ?_
      refine args_cons ?_
      refine wpAny_Constant_str ?_
      refine args_cons ?_
      refine wpAny_Constant_str ?_
      refine args_nil ?_
      refine SC.replaceW (Nat.ne_of_gt Y3.toks) (Nat.succ_ne_zero _) (Nat.ne_of_lt (Nat.lt_succ_self _)) (by decide) (by omega) (by decide) ?_
      intro t4 k4
      have hl4 := Nat.le_trans (repl_len _ ";" "-" (by decide)) hl3
      refine stTM Y3.F Y3.gens Y3.os fun mm4 y4 hm4 _ Y4 => ?_
      dsimp only
      refine wpAny_execs_cons ?_
      refine wpAny_Assign_Name ?_
      refine MethodCall_ ?_
      refine ld Y4.F hm4 ?_
      with_reducible refine GM.replace ?_
      refine callWith_method1 ?_
      refine args_cons ?_
      refine wpAny_Constant_str ?_
      refine args_cons ?_
      refine wpAny_Constant_str ?_
      refine args_nil ?_
      refine SC.replaceW (Nat.ne_of_gt Y4.toks) (Nat.succ_ne_zero _) (Nat.ne_of_lt (Nat.lt_succ_self _)) (by decide) (by omega) (by decide) ?_
      intro t5 k5
      have hl5 := Nat.le_trans (repl_len _ "\"" "-" (by decide)) hl4
      refine stTM Y4.F Y4.gens Y4.os fun mm5 y5 hm5 _ Y5 => ?_
      dsimp only
      refine wpAny_execs_cons ?_
      refine wpAny_Assign_Name ?_
      refine MethodCall_ ?_
      refine ld Y5.F hm5 ?_
      with_reducible refine GM.replace ?_
      refine callWith_method1 ?_
      refine args_cons ?_
      refine wpAny_Constant_str ?_
      refine args_cons ?_
      refine wpAny_Constant_str ?_
      refine args_nil ?_
      refine SC.replaceW (Nat.ne_of_gt Y5.toks) (Nat.succ_ne_zero _) (Nat.ne_of_lt (Nat.lt_succ_self _)) (by decide) (by omega) (by decide) ?_
      intro t6 k6
      have hl6 := Nat.le_trans (repl_len _ "(" "-" (by decide)) hl5
      refine stTM Y5.F Y5.gens Y5.os fun mm6 y6 hm6 _ Y6 => ?_
      dsimp only
      refine wpAny_execs_cons ?_
      refine wpAny_Assign_Name ?_
      refine MethodCall_ ?_
      refine ld Y6.F hm6 ?_
      with_reducible refine GM.replace ?_
      refine callWith_method1 ?_
      refine args_cons ?_
      refine wpAny_Constant_str ?_
      refine args_cons ?_
      refine wpAny_Constant_str ?_
      refine args_nil ?_
      refine SC.replaceW (Nat.ne_of_gt Y6.toks) (Nat.succ_ne_zero _) (Nat.ne_of_lt (Nat.lt_succ_self _)) (by decide) (by omega) (by decide) ?_
      intro t7 k7
      have hl7 := Nat.le_trans (repl_len _ ")" "-" (by decide)) hl6
      refine stTM Y6.F Y6.gens Y6.os fun mm7 y7 hm7 _ Y7 => ?_
      dsimp only
      refine wpAny_execs_cons ?_
      refine wpAny_Assign_Name ?_
      refine MethodCall_ ?_
      refine ld Y7.F hm7 ?_
      with_reducible refine GM.replace ?_
      refine callWith_method1 ?_
      refine args_cons ?_
      refine wpAny_Constant_str ?_
      refine args_cons ?_
      refine wpAny_Constant_str ?_
      refine args_nil ?_
      refine SC.replaceW (Nat.ne_of_gt Y7.toks) (Nat.succ_ne_zero _) (Nat.ne_of_lt (Nat.lt_succ_self _)) (by decide) (by omega) (by decide) ?_
      intro t8 k8
      have hl8 := Nat.le_trans (repl_len _ "unknown" "" (by decide)) hl7
      refine stTM Y7.F Y7.gens Y7.os fun mm8 y8 hm8 _ Y8 => ?_
      dsimp only
      refine wpAny_execs_cons ?_
      refine wpAny_While ?_
      refine codeAny_whileLoop (I := fun n s' => ∃ m x t, Pz (regrown h₀ P ps') h₀.objs.size s₆.gens s.os m s' ∧ m "platform" = some (.str x t) ∧ Red (subs x0) x ∧ n = x.length) ?_ _ ⟨_, _, _, Y8, hm8, .refl, rfl⟩
      rintro n s₈ ⟨m₈, x₈, u₈, Z₈, hm₈, hr₈, rfl⟩
      have hl₉ : x₈.length ≤ 2000 := Nat.le_trans hr₈.len hl8
      refine wpAny_isTrue_value ?_
      refine wpAny_Constant_bool ?_
      refine wpAny_truthy_bool ?_
      simp only [if_true]
      refine wpAny_execs_cons ?_
      refine wpAny_Assign_Name ?_
      refine MethodCall_ ?_
      refine ld Z₈.F hm₈ ?_
      with_reducible refine GM.replace ?_
      refine callWith_method1 ?_
      refine args_cons ?_
      refine wpAny_Constant_str ?_
      refine args_cons ?_
      refine wpAny_Constant_str ?_
      refine args_nil ?_
      refine SC.replaceW (Nat.ne_of_gt Z₈.toks) (Nat.succ_ne_zero _) (Nat.ne_of_lt (Nat.lt_succ_self _)) (by decide) (by omega) (by decide) ?_
      intro t₉ k₉
      refine stTM Z₈.F Z₈.gens Z₈.os fun m₉ y₉ hc₉ hq₉ Y₉ => ?_
      dsimp only
      have hm₉ := (hq₉ "platform" (by decide +kernel)).trans hm₈
      refine wpAny_execs_cons ?_
      refine wpAny_If ?_
      refine wpAny_isTrue_Compare1 ?_
      refine ld Y₉.F hc₉ ?_
      refine ld Y₉.F hm₉ ?_
      refine PyProof.Rows.eq_str ?_
      refine wpAny_truthy_bool ?_
      by_cases heq : Txt.replace x₈ "--" "-" = x₈
      · have e1 : (Txt.replace x₈ (Str.ofString "--") (Str.ofString "-") == x₈) = true := by rw [heq]; exact beq_self_eq_true _
        rw [e1]
        simp only [if_true]
        refine wpAny_execs_cons ?_
        refine wpAny_Break ?_
        dsimp only
        clear heq e1 Y8 Y7 Y6 Y5 Y4 Y3 Y2 Y1 Y0
        refine wpAny_execs_cons ?_
        refine wpAny_While ?_
        refine codeAny_whileLoop (I := fun n s' => ∃ m x t, Pz (regrown h₀ P ps') h₀.objs.size s₆.gens s.os m s' ∧ m "platform" = some (.str x t) ∧ Red (subs x0) x ∧ n = x.length) ?_ _ ⟨_, _, _, Y₉, hm₉, hr₈, rfl⟩
        clear hm₉ Y₉ hr₈ hl₉ Z₈ hm₈
        rintro n s₁ ⟨m₁, x₁, u₁, Z₁, hm₁, hr₁, rfl⟩
        have hl₁ : x₁.length ≤ 2000 := Nat.le_trans hr₁.len hl8
        refine wpAny_isTrue_BoolOp ?_
        refine wpAny_allTrue_And_cons ?_
        refine wpAny_isTrue_value ?_
        refine ld Z₁.F hm₁ ?_
        refine PySem.P.truthy_str (by omega) ?_
        have done : ∀ s₂, Fr (regrown h₀ P ps') h₀.objs.size s₂.heap m₁ → s₂.gens = s₆.gens → s₂.os = s.os → Q (.str x₁ u₁) s₂ := fun s₂ F₂ g₂ o₂ => by
          refine h x₁ u₁ s₂ ps' hr₁ (fun b o hbP e => ?_) (B'.codeAt F₂) (B'.tabAt F₂) hmore (g₂ ▸ g₆) o₂
          exact F₂.keep b o ((Heap.get?_update_other _ _ (Ne.symm hbP)).trans (hkp b o e))
        by_cases h0 : x₁.length = 0
        · have e0 : ((x₁.length : Int) != 0) = false := by rw [h0]; rfl
          rw [e0]
          simp only [Bool.false_eq_true, if_false]
          refine wpAny_execs_nil ?_
          dsimp only
          refine wpAny_execs_cons ?_
          refine wpAny_Return_some ?_
          refine ld Z₁.F hm₁ ?_
          exact done _ Z₁.F Z₁.gens Z₁.os
        · have e0 : ((x₁.length : Int) != 0) = true := by simpa using h0
          rw [e0]
          simp only [if_true]
          refine wpAny_allTrue_And_cons ?_
          refine wpAny_isTrue_Compare1 ?_
          refine PyProof.Rows.Subscript_ ?_
          refine ld Z₁.F hm₁ ?_
          refine wpAny_UnaryOp ?_
          refine wpAny_Constant_int ?_
          refine PyProof.Rows.neg_int ?_
          obtain ⟨c, hc1, hc2⟩ := at_last x₁ (Nat.pos_of_ne_zero h0)
          refine itemS (by decide) hc1 ?_
          refine wpAny_Constant_str ?_
          refine PyProof.Rows.eq_str ?_
          refine wpAny_truthy_bool ?_
          by_cases h45 : c = 45
          · have e1 : ((⟨#[c]⟩ : Str) == Str.ofString "-") = true := by rw [h45]; decide
            rw [e1]
            simp only [if_true]
            refine wpAny_allTrue_And_nil ?_
            simp only [if_true]
            refine wpAny_execs_cons ?_
            refine wpAny_Assign_Name ?_
            refine cutN (x := x₁) Z₁.F ?_ (by rw [sizeLine_eq]; omega)
            refine ld Z₁.F hm₁ ?_
            refine ⟨_, rfl, Z₁.F, fun t' s₂ q₂ => ?_⟩
            refine stTM q₂.fr (q₂.gens.trans Z₁.gens) (q₂.os.trans Z₁.os) fun m₂ y₂ hm₂ _ Y₂ => ?_
            refine wpAny_execs_nil ?_
            refine ⟨_, ?_, _, _, _, Y₂, hm₂, hr₁.last (Nat.pos_of_ne_zero h0) (hc2.trans (by rw [h45])), rfl⟩
            rw [slice_last _ (Nat.pos_of_ne_zero h0)]
            show (List.take (x₁.length - 1) x₁.cps.toList).toArray.size < _
            rw [List.size_toArray, List.length_take]
            omega
          · have e1 : ((⟨#[c]⟩ : Str) == Str.ofString "-") = false := by
              refine beq_eq_false_iff_ne.mpr fun e => h45 ?_
              have := congrArg (fun y : Str => y.cps.getD 0 0) e
              exact this
            rw [e1]
            simp only [Bool.false_eq_true, if_false]
            refine wpAny_execs_nil ?_
            dsimp only
            refine wpAny_execs_cons ?_
            refine wpAny_Return_some ?_
            refine ld Z₁.F hm₁ ?_
            exact done _ Z₁.F Z₁.gens Z₁.os
      · have e1 : (Txt.replace x₈ (Str.ofString "--") (Str.ofString "-") == x₈) = false := beq_eq_false_iff_ne.mpr heq
        rw [e1]
        simp only [Bool.false_eq_true, if_false]
        refine wpAny_execs_nil ?_
        refine wpAny_execs_cons ?_
        refine wpAny_Assign_Name ?_
        refine ld Y₉.F hc₉ ?_
        refine stTM Y₉.F Y₉.gens Y₉.os fun m₁ y₁ hm₁ _ Y₁ => ?_
        refine wpAny_execs_nil ?_
        exact ⟨_, repl_lt _ _ _ (by decide) heq, _, _, _, Y₁, hm₁, hr₈.dash, rfl⟩
    · rw [List.length_range, sizeLine_eq]
      exact Nat.le_trans hjl (by decide)
end
end Mine
end
section
open PySem PySem.W PyProof.Rows PySem.Calls
set_option maxRecDepth 100000
set_option maxHeartbeats 400000
namespace Mine
/-! ## the parts that can come up -/
def plains : List Int := [5, 2, 8, 9, 6, 3, 60, 57, 54, 51, 48, -6]
def allParts : List Part := base ++ plains.map plainP
theorem of_parts {P : Part → Prop} (h1 : ∀ p ∈ base, P p) (h2 : ∀ v ∈ plains, P (plainP v)) : ∀ p ∈ allParts, P p := by
  intro p hp
  rcases List.mem_append.mp hp with hp | hp
  · exact h1 p hp
  · obtain ⟨v, hv, rfl⟩ := List.mem_map.mp hp
    exact h2 v hv
theorem base_mem {p : Part} (h : p ∈ base) : p ∈ allParts := List.mem_append_left _ h
theorem plain_mem {v : Int} (h : v ∈ plains) : plainP v ∈ allParts := List.mem_append_right _ (List.mem_map.mpr ⟨v, h, rfl⟩)
theorem partAt_mem (n : Int) : partAt n ∈ allParts := by
  obtain ⟨h0, h9⟩ := fmod9 n
  have hlt : (n.fmod 9).toNat < base.length := by show (n.fmod 9).toNat < 9; omega
  unfold partAt
  rw [List.getD_eq_getElem?_getD, List.getElem?_eq_getElem hlt]
  exact base_mem (List.getElem_mem hlt)
/-- what is checked of each part -/
def okPart (p : Part) : Bool :=
  decide (p.text.length ≤ 3) && p.text.cps.toList.all (fun c => decide (c < 256) && decide (c ≠ 46)) && decide (PySem.intText? p.text = p.num) &&
  (match p.num with | some n => decide (n.natAbs < 5000) && decide (n ∈ plains) | none => true) && (!gt4 p || match p.num with | some n => decide (n - 3 ∈ plains) | none => true) &&
  decide (p.ranks.length ≤ 100) && p.ranks.all (fun d => match d with | .int _ => true | .str _ => true | _ => false)
theorem okParts : allParts.all okPart = true := by decide +kernel
structure PartF (p : Part) : Prop where
  len : p.text.length ≤ 3
  cps : ∀ c ∈ p.text.cps.toList, c < 256 ∧ c ≠ 46
  num : PySem.intText? p.text = p.num
  small : ∀ n, p.num = some n → n.natAbs < 5000 ∧ n ∈ plains
  less : gt4 p = true → ∀ n, p.num = some n → n - 3 ∈ plains
  rlen : p.ranks.length ≤ 100
  rflat : ∀ r ∈ p.ranks, flat r
theorem partF {p : Part} (hp : p ∈ allParts) : PartF p := by
  have := List.all_eq_true.mp okParts p hp
  unfold okPart at this
  simp only [Bool.and_eq_true, decide_eq_true_eq, List.all_eq_true] at this
  obtain ⟨⟨⟨⟨⟨⟨h1, h2⟩, h3⟩, h4⟩, h5⟩, h6⟩, h7⟩ := this
  refine ⟨h1, fun c hc => ⟨(h2 c hc).1, (h2 c hc).2⟩, h3, fun n hn => ?_, fun hg n hn => ?_, h6, fun r hr => ?_⟩
  · rw [hn] at h4
    simpa using h4
  · rw [hg, hn] at h5
    simpa using h5
  · have := h7 r hr
    cases r <;> first | trivial | cases this
theorem plain_ok {p : Part} (hp : p ∈ allParts) : p.plain ∈ allParts := by
  unfold Part.plain
  cases hn : p.num with
  | none => exact hp
  | some n => exact plain_mem ((partF hp).small n hn).2
theorem less_ok {p : Part} (hp : p ∈ allParts) (hg : gt4 p = true) : lessP p ∈ allParts := by
  unfold lessP
  cases hn : p.num with
  | none => exact hp
  | some n => exact plain_mem ((partF hp).less hg n hn)
/-- a list of parts that can come up -/
structure Lst (l : List Part) (n : Nat) : Prop where
  ne : l ≠ []
  ok : ∀ p ∈ l, p ∈ allParts
  len : l.length ≤ n
theorem Lst.texts {l : List Part} {n : Nat} (h : Lst l n) : ∀ q ∈ l.map Part.text, 46 ∉ q.cps.toList := by
  intro q hq
  obtain ⟨p, hp, rfl⟩ := List.mem_map.mp hq
  exact fun hm => ((partF (h.ok p hp)).cps 46 hm).2 rfl
theorem Lst.split {l : List Part} {n : Nat} (h : Lst l n) : Txt.split (txt l) "." = l.map Part.text := by
  unfold txt
  rw [txt_join]
  exact split_join 46 _ (by simpa using h.ne) h.texts
theorem sum_le (B : Nat) : ∀ l : List Str, (∀ x ∈ l, x.length ≤ B) → (l.map (·.length)).sum ≤ l.length * B := StrLaws.sumLen_le
theorem Lst.sum {l : List Part} {n : Nat} (h : Lst l n) : ((l.map Part.text).map (·.length)).sum ≤ n * 3 := by
  refine Nat.le_trans (StrLaws.sumLen_le (B := 3) _ fun q hq => ?_) ?_
  · obtain ⟨p, hp, rfl⟩ := List.mem_map.mp hq
    exact (partF (h.ok p hp)).len
  · rw [List.length_map]; exact Nat.mul_le_mul_right _ h.len
theorem Lst.short {l : List Part} {n : Nat} (h : Lst l n) : (txt l).length ≤ n * 4 := by
  unfold txt
  rw [txt_join]
  refine Nat.le_trans (StrLaws.join_length_le _ _) ?_
  have h1 := h.sum
  have h2 := h.len
  rw [List.length_map]
  have e : (Str.ofString ".").length = 1 := rfl
  rw [e]
  omega
/-- a sign of a join is one of the parts' or of the mark between -/
theorem mem_join (y : Str) {c : Nat} : ∀ (l : List Str), c ∈ (Str.join y l).cps.toList → c ∈ y.cps.toList ∨ ∃ p ∈ l, c ∈ p.cps.toList
  | [], h => by cases h
  | [p], h => .inr ⟨p, .head _, h⟩
  | p :: q :: l, h => by
    rw [join_cons] at h
    rcases List.mem_append.mp h with h | h
    · rcases List.mem_append.mp h with h | h
      · exact .inr ⟨p, .head _, h⟩
      · exact .inl h
    · rcases mem_join y (q :: l) h with h | ⟨x, hx, h⟩
      · exact .inl h
      · exact .inr ⟨x, .tail _ hx, h⟩
theorem Lst.cps {l : List Part} {n : Nat} (h : Lst l n) : ∀ c ∈ (txt l).cps.toList, c < 256 := by
  intro c hc
  unfold txt at hc
  rw [txt_join] at hc
  rcases mem_join _ _ hc with hc | ⟨q, hq, hc⟩
  · have hc : c ∈ [46] := hc
    have : c = 46 := by simpa using hc
    omega
  · obtain ⟨p, hp, rfl⟩ := List.mem_map.mp hq
    exact ((partF (h.ok p hp)).cps c hc).1
end Mine
end
section
open PySem PySem.W PyProof.Rows PySem.Calls
set_option maxRecDepth 100000
set_option maxHeartbeats 400000
namespace Mine
/-! ## the ranks of a text, sign by sign -/
section
variable (w : World)
noncomputable def r1 (p : List Nat) : List PyData := rank1 w ⟨p.toArray⟩
def joins (cur : List Nat) (c : Nat) : Bool := match cur with | [] => true | k :: _ => dig k == dig c
noncomputable def rkA : List Nat → List Nat → List PyData
  | cur, [] => r1 w cur
  | cur, c :: r => if sepc c then r1 w cur ++ rkA [] r else if joins cur c then rkA (cur ++ [c]) r else r1 w cur ++ rkA [c] r
theorem rkA_nil (cur : List Nat) : rkA w cur [] = r1 w cur := by rw [rkA]
theorem rkA_cons (cur : List Nat) (c : Nat) (r : List Nat) : rkA w cur (c :: r) = if sepc c then r1 w cur ++ rkA w [] r else if joins cur c then rkA w (cur ++ [c]) r else r1 w cur ++ rkA w [c] r := by rw [rkA]
theorem r1_nil : r1 w [] = [] := by
  unfold r1 rank1
  rw [if_pos (by decide +kernel)]
theorem r1_sep (c : Nat) (h : sepc c = true) : r1 w [c] = [] := by
  unfold r1 rank1
  rw [if_pos]
  unfold sepc at h
  simp only [Bool.or_eq_true, beq_iff_eq] at h
  rcases h with ((rfl | rfl) | rfl) | rfl <;> decide +kernel
theorem rkA_sep (c : Nat) (h : sepc c = true) (cur a b : List Nat) : rkA w cur (a ++ c :: b) = rkA w cur a ++ rkA w [] b := by
  induction a generalizing cur with
  | nil => rw [List.nil_append, rkA_cons, if_pos h, rkA_nil]
  | cons x a ih =>
    show rkA w cur (x :: (a ++ c :: b)) = rkA w cur (x :: a) ++ _
    rw [rkA_cons, rkA_cons]
    by_cases hx : sepc x = true
    · rw [if_pos hx, if_pos hx, ih, List.append_assoc]
    · rw [if_neg hx, if_neg hx]
      by_cases hj : joins cur x = true
      · rw [if_pos hj, if_pos hj, ih]
      · rw [if_neg hj, if_neg hj, ih, List.append_assoc]
/-- a run of one kind -/
theorem rkA_run (k : Bool) (rest : List Nat) (hrest : ∀ c r, rest = c :: r → sepc c = true ∨ dig c ≠ k) : ∀ (run cur : List Nat), (∀ c ∈ run, sepc c = false ∧ dig c = k) → (∀ c ∈ cur, dig c = k) → (cur ≠ [] ∨ run ≠ []) →
    rkA w cur (run ++ rest) = r1 w (cur ++ run) ++ rkA w [] rest
  | [], cur, _, hc, hne => by
    have hcur : cur ≠ [] := hne.resolve_right fun h => h rfl
    obtain ⟨x, cur, rfl⟩ := List.exists_cons_of_ne_nil hcur
    rw [List.append_nil, List.nil_append]
    cases rest with
    | nil => rw [rkA_nil, rkA_nil, r1_nil, List.append_nil]
    | cons c r =>
      rw [rkA_cons, rkA_cons]
      by_cases hs : sepc c = true
      · rw [if_pos hs, if_pos hs, r1_nil]; rfl
      · rw [if_neg hs, if_neg hs]
        have hd : dig c ≠ k := (hrest c r rfl).resolve_left hs
        have hj : joins (x :: cur) c = false := by
          show (dig x == dig c) = false
          rw [hc x List.mem_cons_self]
          exact beq_eq_false_iff_ne.mpr (Ne.symm hd)
        rw [hj, if_neg Bool.false_ne_true, if_pos (show joins [] c = true from rfl)]; rfl
  | c :: run, cur, hr, hc, _ => by
    show rkA w cur (c :: (run ++ rest)) = _
    obtain ⟨h1, h2⟩ := hr c List.mem_cons_self
    have hj : joins cur c = true := by
      cases cur with
      | nil => rfl
      | cons x cur => show (dig x == dig c) = true; rw [hc x List.mem_cons_self, h2]; exact beq_self_eq_true _
    rw [rkA_cons, if_neg (by rw [h1]; exact Bool.false_ne_true), if_pos hj]
    rw [rkA_run k rest hrest run (cur ++ [c]) (fun x m => hr x (List.mem_cons_of_mem _ m)) (fun x m => by
      rcases List.mem_append.mp m with m | m
      · exact hc x m
      · rw [List.mem_singleton.mp m]; exact h2) (.inl (by simp))]
    rw [List.append_assoc]; rfl
end
theorem rkA_run0' (w : World) (k : Bool) (rest : List Nat) (run : List Nat) (hrest : ∀ c r, rest = c :: r → sepc c = true ∨ dig c ≠ k) (hr : ∀ c ∈ run, sepc c = false ∧ dig c = k) :
    rkA w [] (run ++ rest) = r1 w run ++ rkA w [] rest := by
  cases run with
  | nil => rw [r1_nil]; rfl
  | cons c run => exact rkA_run w k rest hrest (c :: run) [] hr (fun _ h => nomatch h) (.inr (by simp))
theorem rkA_run0 (w : World) (k : Bool) (run : List Nat) (hr : ∀ c ∈ run, sepc c = false ∧ dig c = k) : rkA w [] run = r1 w run := by
  have := rkA_run0' w k [] run (fun _ _ e => nomatch e) hr
  rw [List.append_nil, rkA_nil, r1_nil, List.append_nil] at this
  exact this
theorem dig_sep {c : Nat} (h : dig c = true) : sepc c = false := by
  unfold dig at h
  unfold sepc
  simp only [Bool.and_eq_true, decide_eq_true_eq] at h
  simp only [Bool.or_eq_false_iff, beq_eq_false_iff_ne]
  omega
/-! ## the pieces of the split, as lists -/
abbrev oth (c : Nat) : Bool := !dig c && !sepc c
theorem drop_getD (t : Array Nat) (p : Nat) (h : p < t.size) : t.toList.drop p = t.getD p 0 :: t.toList.drop (p + 1) := by
  rw [List.drop_eq_getElem_cons (by simpa using h)]
  congr 1
  simp [h]
theorem dcount_eq (t : Array Nat) : ∀ (n p : Nat), n = t.size - p → dcount t n p = ((t.toList.drop p).takeWhile dig).length
  | 0, p, h => by
    have : t.toList.drop p = [] := List.drop_eq_nil_iff.mpr (by simp; omega)
    rw [this]; rfl
  | n + 1, p, h => by
    have hp : p < t.size := by omega
    rw [drop_getD t p hp, dcount, List.takeWhile_cons]
    cases hd : dig (t.getD p 0) with
    | true => rw [if_pos rfl, if_pos rfl, dcount_eq t n (p + 1) (by omega)]; rfl
    | false => rw [if_neg Bool.false_ne_true, if_neg Bool.false_ne_true]; rfl
theorem findTok_eq (t : Array Nat) : ∀ (n p : Nat), t.size - p < n → findTok t t.size n p =
    (let q := p + ((t.toList.drop p).takeWhile oth).length
     if q < t.size then (if dig (t.getD q 0) then some (q, q + ((t.toList.drop q).takeWhile dig).length) else some (q, q + 1)) else none)
  | 0, p, h => absurd h (Nat.not_lt_zero _)
  | n + 1, p, h => by
    rw [findTok]
    dsimp only
    by_cases hp : p < t.size
    · rw [if_pos hp, drop_getD t p hp, List.takeWhile_cons]
      cases hd : dig (t.getD p 0) with
      | true =>
        have e : oth (t.getD p 0) = false := by unfold oth; rw [hd]; rfl
        rw [e]
        simp only [Bool.false_eq_true, if_false, List.length_nil, Nat.add_zero, if_true]
        rw [if_pos hp, hd, if_pos rfl, dcount_eq t _ p rfl]
      | false =>
        cases hs : sepc (t.getD p 0) with
        | true =>
          have e : oth (t.getD p 0) = false := by unfold oth; rw [hs, hd]; rfl
          rw [e]
          simp only [Bool.false_eq_true, if_false, List.length_nil, Nat.add_zero, if_true]
          rw [if_pos hp, hd]; rfl
        | false =>
          have e : oth (t.getD p 0) = true := by unfold oth; rw [hs, hd]; rfl
          rw [e]
          simp only [Bool.false_eq_true, if_false, if_true, List.length_cons]
          rw [findTok_eq t n (p + 1) (by omega)]
          dsimp only
          rw [show p + 1 + ((t.toList.drop (p + 1)).takeWhile oth).length = p + (((t.toList.drop (p + 1)).takeWhile oth).length + 1) from by omega]
    · have : t.toList.drop p = [] := List.drop_eq_nil_iff.mpr (by simp; omega)
      rw [this, if_neg (show ¬ (p + (List.takeWhile oth []).length < t.size) from hp), if_neg hp]
theorem ext_list (t : Array Nat) (a b : Nat) : (t.extract a b).toList = (t.toList.drop a).take (b - a) := by
  rw [Array.toList_extract]
theorem mem_tw {p : Nat → Bool} : ∀ (l : List Nat) (c : Nat), c ∈ l.takeWhile p → p c = true
  | x :: l, c, h => by
    rw [List.takeWhile_cons] at h
    by_cases hx : p x = true
    · rw [if_pos hx] at h
      rcases List.mem_cons.mp h with rfl | h
      · exact hx
      · exact mem_tw l c h
    · rw [if_neg hx] at h; cases h
theorem drop_tw {p : Nat → Bool} : ∀ l : List Nat, l.drop (l.takeWhile p).length = l.dropWhile p
  | [] => rfl
  | x :: l => by
    rw [List.takeWhile_cons, List.dropWhile_cons]
    by_cases hx : p x = true
    · rw [if_pos hx, if_pos hx, List.length_cons, List.drop_succ_cons, drop_tw l]
    · rw [if_neg hx, if_neg hx]; rfl
theorem take_tw {p : Nat → Bool} : ∀ l : List Nat, l.take (l.takeWhile p).length = l.takeWhile p
  | [] => rfl
  | x :: l => by
    rw [List.takeWhile_cons]
    by_cases hx : p x = true
    · rw [if_pos hx, List.length_cons, List.take_succ_cons, take_tw l]
    · rw [if_neg hx]; rfl
theorem head_drop {p : Nat → Bool} : ∀ (l : List Nat) (c : Nat) (r : List Nat), l.dropWhile p = c :: r → p c = false
  | [], _, _, h => by cases h
  | x :: l, c, r, h => by
    rw [List.dropWhile_cons] at h
    by_cases hx : p x = true
    · rw [if_pos hx] at h; exact head_drop l c r h
    · rw [if_neg hx] at h; injection h with h1 _; rw [← h1]; simpa using hx
theorem sp_rk (w : World) (t : Array Nat) : ∀ (n st : Nat), t.size - st < n → ((sp t n st).map Str.mk).flatMap (rank1 w) = rkA w [] (t.toList.drop st)
  | 0, st, h => absurd h (Nat.not_lt_zero _)
  | n + 1, st, h => by
    rw [sp, findTok_eq t _ st (by omega)]
    dsimp only
    generalize hT : t.toList.drop st = T
    have hl : T.length = t.size - st := by rw [← hT]; simp
    have hsplit : T = T.takeWhile oth ++ T.dropWhile oth := (List.takeWhile_append_dropWhile).symm
    have htw : ∀ c ∈ T.takeWhile oth, sepc c = false ∧ dig c = false := fun c hc => by
      have := mem_tw _ _ hc
      unfold oth at this
      simp only [Bool.and_eq_true, Bool.not_eq_true'] at this
      exact ⟨this.2, this.1⟩
    have hrd : t.toList.drop (st + (T.takeWhile oth).length) = T.dropWhile oth := by
      rw [← List.drop_drop, hT, drop_tw]
    have htk : T.take (T.takeWhile oth).length = T.takeWhile oth := take_tw T
    have e1 : ∀ p : Array Nat, rank1 w (Str.mk p) = r1 w p.toList := fun p => by unfold r1; simp
    have eb : (T.takeWhile oth).length + (T.dropWhile oth).length = T.length := by rw [← List.length_append, ← hsplit]
    have hx : ∀ a b, rank1 w (Str.mk (t.extract a b)) = r1 w ((t.toList.drop a).take (b - a)) := fun a b => by rw [e1, ext_list]
    cases hd : T.dropWhile oth with
    | nil =>
      rw [hd] at eb hsplit
      have eb : (T.takeWhile oth).length = T.length := by simpa using eb
      rw [if_neg (by omega)]
      show rank1 w (Str.mk (t.extract st t.size)) ++ [] = _
      rw [hx, hT, List.append_nil, ← hl, List.take_length]
      rw [List.append_nil] at hsplit
      rw [hsplit, rkA_run0 w false _ (fun c hc => htw c hc), hsplit.symm]
    | cons c r =>
      rw [hd] at eb hsplit hrd
      rw [List.length_cons] at eb
      have hq : st + (T.takeWhile oth).length < t.size := by omega
      have hc : t.getD (st + (T.takeWhile oth).length) 0 = c ∧ t.toList.drop (st + (T.takeWhile oth).length + 1) = r := by
        have := drop_getD t _ hq
        rw [hrd] at this
        injection this with h1 h2
        exact ⟨h1.symm, h2.symm⟩
      have hoc : oth c = false := head_drop T c r hd
      rw [if_pos hq, hc.1]
      have hfst : rank1 w (Str.mk (t.extract st (st + (T.takeWhile oth).length))) = r1 w (T.takeWhile oth) := by
        rw [hx, hT, Nat.add_sub_cancel_left, htk]
      have hrk : rkA w [] T = r1 w (T.takeWhile oth) ++ rkA w [] (c :: r) := by
        conv => lhs; rw [hsplit]
        refine rkA_run0' w false _ _ (fun c' r' e => ?_) (fun c hc => htw c hc)
        injection e with e1 _
        rw [← e1]
        unfold oth at hoc
        cases hs : sepc c with
        | true => exact .inl rfl
        | false => rw [hs] at hoc; right; intro hdc; rw [hdc] at hoc; cases hoc
      cases hdc : dig c with
      | true =>
        rw [if_pos rfl]
        dsimp only
        rw [List.map_cons, List.map_cons, List.flatMap_cons, List.flatMap_cons, hfst, hrk, hx, hrd]
        have hdl : 1 ≤ ((c :: r).takeWhile dig).length := by rw [List.takeWhile_cons, if_pos hdc, List.length_cons]; omega
        have hs2 : (c :: r) = (c :: r).takeWhile dig ++ (c :: r).dropWhile dig := (List.takeWhile_append_dropWhile).symm
        have htk2 : (c :: r).take ((c :: r).takeWhile dig).length = (c :: r).takeWhile dig := by
          exact take_tw _
        have hdr2 : t.toList.drop (st + (T.takeWhile oth).length + ((c :: r).takeWhile dig).length) = (c :: r).dropWhile dig := by
          rw [← List.drop_drop, hrd, drop_tw]
        rw [Nat.add_sub_cancel_left, htk2, sp_rk w t n _ (by omega), hdr2]
        congr 1
        have := rkA_run0' w true ((c :: r).dropWhile dig) ((c :: r).takeWhile dig) (fun c' r' e => .inr (by rw [head_drop _ c' r' e]; decide)) (fun x hx => ⟨dig_sep (mem_tw _ _ hx), mem_tw _ _ hx⟩)
        rw [← hs2] at this
        exact this.symm
      | false =>
        have hs : sepc c = true := by
          unfold oth at hoc
          rw [hdc] at hoc
          simpa using hoc
        rw [if_neg Bool.false_ne_true]
        dsimp only
        rw [List.map_cons, List.map_cons, List.flatMap_cons, List.flatMap_cons, hfst, hrk, hx, hrd, Nat.add_sub_cancel_left]
        show _ ++ (r1 w [c] ++ _) = _
        rw [r1_sep w c hs, List.nil_append, sp_rk w t n _ (by omega), hc.2]
        congr 1
        have := rkA_sep w c hs [] [] r
        rw [List.nil_append] at this
        rw [this, rkA_nil, r1_nil]; rfl
noncomputable def rk (w : World) (x : Str) : List PyData := rkA w [] x.cps.toList
theorem cmpv_rk (w : World) (x : Str) : cmpv w x = rk w x := by
  unfold cmpv rk
  rw [sp_rk w x.cps _ 0 (by show x.cps.size - 0 < 2 * x.cps.size + 3; omega)]; rfl
end Mine
end
section
open PySem PySem.W PyProof.Rows PySem.Calls
set_option maxRecDepth 100000
set_option maxHeartbeats 400000
namespace Mine
def kinds : List Str := ["SunOS", "win32", "Linux", "win16", "Solaris", "Windows"]
/-! ## the alias -/
def firstGt (l : List Nat) : Bool := match l with | [] => false | c :: _ => decide (52 < c)
theorem gt4_all : allParts.all (fun p => gt4 p == firstGt p.text.cps.toList) = true := by decide +kernel
theorem txt_cons (p : Part) (r : List Part) : ∃ t, (txt (p :: r)).cps.toList = p.text.cps.toList ++ t ∧ (t = [] ∨ ∃ t', t = 46 :: t') := by
  unfold txt
  rw [txt_join, List.map_cons]
  cases r with
  | nil => exact ⟨[], by rw [List.append_nil]; rfl, .inl rfl⟩
  | cons q r =>
    rw [List.map_cons, join_cons]
    exact ⟨_, List.append_assoc _ _ _, .inr ⟨_, rfl⟩⟩
theorem lt5 {p : Part} (hp : p ∈ allParts) (r : List Part) : ltS (txt (p :: r)) "5" = !gt4 p := by
  have hg := List.all_eq_true.mp gt4_all p hp
  rw [eq_of_beq hg]
  obtain ⟨t, ht, hc⟩ := txt_cons p r
  unfold ltS
  rw [ht]
  have e5 : (Str.ofString "5").cps.toList = [53] := rfl
  rw [e5]
  cases p.text.cps.toList with
  | nil =>
    rcases hc with rfl | ⟨t', rfl⟩
    · rfl
    · rw [List.nil_append, StrLaws.lt_cons_cons]; rfl
  | cons c cs =>
    rw [List.cons_append, StrLaws.lt_cons_cons]
    have e6 : decide (cs ++ t < ([] : List Nat)) = false := by cases cs ++ t <;> simp
    rw [e6, Bool.and_false, Bool.or_false]
    show decide (c < 53) = !decide (52 < c)
    by_cases h : c < 53
    · rw [decide_eq_true h, decide_eq_false (show ¬ 52 < c by omega)]; rfl
    · rw [decide_eq_false h, decide_eq_true (show 52 < c by omega)]; rfl
section
variable {k : Str} {p : Part} {r : List Part} {n : Nat}
theorem sa_kind (h : Lst (p :: r) n) : saK k (txt (p :: r)) = winK (midP k p r).1 := by
  unfold saK midP
  rw [lt5 (h.ok p (.head _))]
  cases hk : (k == ("SunOS" : Str)) with
  | true =>
    rw [eq_of_beq hk]
    cases gt4 p with
    | true => show ("Solaris" : Str) = winK "Solaris"; decide
    | false => show ("SunOS" : Str) = winK "SunOS"; decide
  | false =>
    simp only [Bool.false_eq_true, if_false, Bool.false_and]
    unfold winK
    by_cases h1 : k = "win32"
    · rw [if_pos (.inl h1), if_pos h1]
    · by_cases h2 : k = "win16"
      · rw [if_pos (.inr h2), if_neg h1, if_pos h2]
      · rw [if_neg (by rintro (h | h) <;> contradiction), if_neg h1, if_neg h2]
theorem sa_rel (h : Lst (p :: r) n) : (if k == ("SunOS" : Str) then saR (txt (p :: r)) else txt (p :: r)) = txt (midP k p r).2 := by
  unfold midP
  cases hk : (k == ("SunOS" : Str)) with
  | false => rfl
  | true =>
    rw [if_pos rfl, Bool.true_and]
    unfold saR
    rw [lt5 (h.ok p (.head _)), h.split, List.map_cons, List.headD_cons, List.tail_cons, (partF (h.ok p (.head _))).num]
    cases hg : gt4 p with
    | false => rfl
    | true =>
      rw [if_neg (by decide), if_pos rfl]
      unfold lessP
      cases p.num <;> rfl
theorem mid_lst (h : Lst (p :: r) n) : Lst (midP k p r).2 n := by
  unfold midP
  split
  · rename_i hc
    rw [Bool.and_eq_true] at hc
    refine ⟨by simp, fun q hq => ?_, h.len⟩
    rcases List.mem_cons.mp hq with rfl | hq
    · exact less_ok (h.ok p (.head _)) hc.2
    · exact h.ok q (.tail _ hq)
  · exact h
theorem mid_kind (hk : k ∈ kinds) : winK (midP k p r).1 ∈ kinds := by
  unfold midP
  split
  · show winK "Solaris" ∈ kinds; decide
  · have : ∀ k ∈ kinds, winK k ∈ kinds := by decide
    exact this k hk
end
/-! ## the norm -/
def addP (l : List Part) (q : Part) : List Part := if q.text.length == 0 then l else l ++ [q]
theorem add_lst {l : List Part} {q : Part} {n : Nat} (h : Lst l n) (hq : q ∈ allParts) : Lst (addP l q) (n + 1) := by
  unfold addP
  split
  · exact ⟨h.ne, h.ok, Nat.le_succ_of_le h.len⟩
  · refine ⟨by simp, fun p hp => ?_, by rw [List.length_append]; exact Nat.succ_le_succ h.len⟩
    rcases List.mem_append.mp hp with hp | hp
    · exact h.ok p hp
    · rw [List.mem_singleton.mp hp]; exact hq
theorem nvL_eq {l : List Part} {q : Part} {n : Nat} (h : Lst l n) : nvL (txt l) q.text = (addP l q).map Part.text := by
  unfold nvL addP
  rw [h.split]
  split
  · rw [List.append_nil]
  · rw [List.map_append]; rfl
theorem nvS_eq {l : List Part} (h : ∀ p ∈ l, p ∈ allParts) : nvS (l.map Part.text) = (if l.all (fun p => p.num.isSome) then l.map Part.plain else l).map Part.text := by
  unfold nvS
  cases hall : l.all (fun p => p.num.isSome) with
  | true =>
    have hs : ∀ p ∈ l, p.num = some (p.num.getD 0) := fun p hp => by
      obtain ⟨n, hn⟩ := Option.isSome_iff_exists.mp (List.all_eq_true.mp hall p hp)
      rw [hn]; rfl
    rw [mapM_some (ks := l.map fun p => p.num.getD 0)]
    · rw [if_pos rfl, List.map_map]
      show List.map (fun k => Str.ofString (toString k)) (List.map (fun p => p.num.getD 0) l) = _
      rw [List.map_map]
      refine List.map_congr_left fun p hp => ?_
      show Str.ofString (toString (p.num.getD 0)) = p.plain.text
      unfold Part.plain
      rw [hs p hp]; rfl
    · rw [List.map_map, List.map_map]
      refine List.map_congr_left fun p hp => ?_
      show PySem.intText? p.text = some (p.num.getD 0)
      rw [(partF (h p hp)).num]; exact hs p hp
  | false =>
    have : ∃ p ∈ l.map Part.text, PySem.intText? p = none := by
      have : ∃ p ∈ l, p.num = none := by
        obtain ⟨p, hp, hn⟩ := List.all_eq_false.mp hall
        exact ⟨p, hp, by simpa using hn⟩
      obtain ⟨p, hp, hn⟩ := this
      exact ⟨_, List.mem_map.mpr ⟨p, hp, rfl⟩, by rw [(partF (h p hp)).num]; exact hn⟩
    rw [mapM_none this]; rfl
theorem nv_txt {l : List Part} {q : Part} {n : Nat} (h : Lst l n) (hq : q ∈ allParts) : nvP (txt l) q.text = txt (normP (addP l q)) := by
  unfold nvP normP txt
  rw [nvL_eq h, nvS_eq (add_lst h hq).ok, ← List.map_take]
theorem norm_lst {l : List Part} {n : Nat} (h : Lst l n) (hn : 3 ≤ n) : Lst (normP l) n := by
  unfold normP
  refine ⟨?_, fun p hp => ?_, ?_⟩
  · intro e
    have e2 := congrArg List.length e
    have h1 : 0 < l.length := List.length_pos_iff.mpr h.ne
    rw [List.length_take] at e2
    split at e2
    · rw [List.length_map] at e2
      simp only [List.length_nil] at e2; omega
    · simp only [List.length_nil] at e2; omega
  · have hp := List.mem_of_mem_take hp
    split at hp
    · obtain ⟨q, hq, rfl⟩ := List.mem_map.mp hp
      exact plain_ok (h.ok q hq)
    · exact h.ok p hp
  · exact Nat.le_trans (by rw [List.length_take]; exact Nat.min_le_left _ _) hn
/-! ## a part put behind -/
theorem txt_snoc {l : List Part} (h : l ≠ []) (q : Part) : txt (l ++ [q]) = txt l ++ "." ++ q.text := by
  unfold txt
  rw [txt_join, txt_join]
  induction l with
  | nil => exact absurd rfl h
  | cons p l ih =>
    cases l with
    | nil => rfl
    | cons p2 l =>
      have ih := ih (by simp)
      show Part.text p ++ "." ++ Str.join "." ((p2 :: l ++ [q]).map Part.text) = Part.text p ++ "." ++ Str.join "." ((p2 :: l).map Part.text) ++ "." ++ q.text
      rw [ih]
      simp only [Str.append_assoc]
def putP (l : List Part) (q : Part) : List Part := if (txt l).length = 0 then [q] else l ++ [q]
theorem put_lst {l : List Part} {q : Part} {n : Nat} (h : Lst l n) (hq : q ∈ allParts) : Lst (putP l q) (n + 1) := by
  unfold putP
  split
  · exact ⟨by simp, fun p hp => by rw [List.mem_singleton.mp hp]; exact hq, Nat.succ_le_succ (Nat.zero_le _)⟩
  · refine ⟨by simp, fun p hp => ?_, by rw [List.length_append]; exact Nat.succ_le_succ h.len⟩
    rcases List.mem_append.mp hp with hp | hp
    · exact h.ok p hp
    · rw [List.mem_singleton.mp hp]; exact hq
theorem Lst.mono {l : List Part} {n n' : Nat} (h : Lst l n) (hn : n ≤ n') : Lst l n' := ⟨h.ne, h.ok, Nat.le_trans h.len hn⟩
end Mine
end
section
open PySem PySem.W PyProof.Rows PySem.Calls
set_option maxRecDepth 100000
set_option maxHeartbeats 4000000
namespace Mine
/-! ## the ranks of joins -/
section
variable (w : World)
theorem rkA_seps : ∀ (ys : List Nat) (cur a b : List Nat), ys ≠ [] → (∀ c ∈ ys, sepc c = true) → rkA w cur (a ++ ys ++ b) = rkA w cur a ++ rkA w [] b
  | [], _, _, _, h, _ => absurd rfl h
  | c :: ys, cur, a, b, _, hs => by
    rw [List.append_assoc, List.cons_append, rkA_sep w c (hs c (.head _))]
    cases ys with
    | nil => rfl
    | cons d ys =>
      have := rkA_seps (d :: ys) [] [] b (by simp) fun x hx => hs x (.tail _ hx)
      rw [List.nil_append, rkA_nil, r1_nil, List.nil_append] at this
      rw [this]
theorem rk_join (y : Str) (hne : y.cps.toList ≠ []) (hs : ∀ c ∈ y.cps.toList, sepc c = true) : ∀ l : List Str, rk w (Str.join y l) = l.flatMap (rk w)
  | [] => by show rkA w [] [] = _; rw [rkA_nil, r1_nil]; rfl
  | [p] => by show rk w p = _; simp
  | p :: q :: l => by
    rw [List.flatMap_cons, ← rk_join y hne hs (q :: l)]
    unfold rk
    rw [join_cons, rkA_seps w _ _ _ _ hne hs]
theorem red_rk {a b : Str} (h : Red a b) : rk w b = rk w a := by
  induction h with
  | refl => rfl
  | @dash b _ ih =>
    obtain ⟨p, l, e1, e2⟩ := repl_parts b "--" "-"
    have h1 : rk w b = (p :: l).flatMap (rk w) := by
      rw [e1]; exact rk_join w _ (by decide) (by decide) _
    rw [← ih, h1, e2]; exact rk_join w _ (by decide) (by decide) _
  | @last b _ h0 h45 ih =>
    rw [← ih, slice_last b h0]
    have e : b.cps.toList = b.cps.toList.take (b.length - 1) ++ [45] := by
      have hlen : b.cps.toList.length = b.length := by simp [Str.length]
      have : b.cps.toList.drop (b.length - 1) = [45] := by
        rw [List.drop_eq_getElem_cons (by omega)]
        have h2 : b.cps.toList[b.length - 1]'(by omega) = 45 := by
          have h3 : b.cps.toList[b.length - 1]? = some 45 := by simpa using h45
          rw [List.getElem?_eq_getElem (by omega)] at h3
          exact Option.some.inj h3
        rw [h2, show b.length - 1 + 1 = b.length from by omega, List.drop_of_length_le (by omega)]
      conv => lhs; rw [← List.take_append_drop (b.length - 1) b.cps.toList]
      rw [this]
    unfold rk
    conv => rhs; rw [e]
    have := rkA_sep w 45 (by decide) [] (b.cps.toList.take (b.length - 1)) []
    rw [this, rkA_nil, r1_nil, List.append_nil]
end
/-! ## the blanks as low strokes, and the rest of the replacements -/
def us (x : Str) : Str := ⟨(x.cps.toList.map fun c => if c = 32 then 95 else c).toArray⟩
theorem us_list (x : Str) : (us x).cps.toList = x.cps.toList.map fun c => if c = 32 then 95 else c := rfl
theorem us_join (y : Str) : ∀ l : List Str, us (Str.join y l) = Str.join (us y) (l.map us)
  | [] => rfl
  | [p] => rfl
  | p :: q :: l => by
    apply str_ext
    rw [us_list, join_cons, List.map_append, List.map_append, List.map_cons, List.map_cons, join_cons, ← List.map_cons, ← us_join y (q :: l)]; rfl
theorem us_free {x : Str} (h : 32 ∉ x.cps.toList) : us x = x := by
  apply str_ext
  rw [us_list]
  conv => rhs; rw [← List.map_id x.cps.toList]
  refine List.map_congr_left fun c hc => ?_
  by_cases e : c = 32
  · rw [e] at hc; exact absurd hc h
  · rw [if_neg e]; rfl
theorem repl_blank (x : Str) : Txt.replace x " " "_" = us x := by
  have h1 := StrLaws.replace_one x "_" 32
  have h2 := StrLaws.join_split x ⟨#[32]⟩
  have h3 := StrLaws.split_free x 32
  have e : us x = Str.join "_" (Txt.split x ⟨#[32]⟩) := by
    conv => lhs; rw [← h2]
    rw [us_join]
    have : (Txt.split x ⟨#[32]⟩).map us = Txt.split x ⟨#[32]⟩ := by
      conv => rhs; rw [← List.map_id (Txt.split x ⟨#[32]⟩)]
      exact List.map_congr_left fun p hp => us_free (h3 p hp)
    rw [this]; rfl
  rw [e]; exact h1
theorem repl_none (x y z : Str) (c : Nat) (hc : c ∈ y.cps.toList) (hx : c ∉ x.cps.toList) : Txt.replace x y z = x := by
  obtain ⟨p, l, e1, e2⟩ := repl_parts x y z
  cases l with
  | nil => rw [e2, e1]; rfl
  | cons q l =>
    refine absurd ?_ hx
    rw [e1, join_cons]
    exact List.mem_append_left _ (List.mem_append_right _ hc)
def okc (c : Nat) : Bool := (!Unicode.isSpace c || c == 32) && !([47, 92, 58, 59, 34, 40, 41, 107].contains c) && decide (c < 256)
def OkT (x : Str) : Prop := ∀ c ∈ x.cps.toList, okc c = true
theorem okc_not {c d : Nat} (h : okc c = true) (hd : d ∈ ([47, 92, 58, 59, 34, 40, 41, 107] : List Nat)) : c ≠ d := by
  rintro rfl
  unfold okc at h
  rw [List.contains_iff_mem.mpr hd] at h
  simp at h
theorem us_ok {x : Str} (h : OkT x) : OkT (us x) := by
  intro c hc
  rw [us_list] at hc
  obtain ⟨d, hd, rfl⟩ := List.mem_map.mp hc
  split
  · decide +kernel
  · exact h d hd
theorem subs_us {x : Str} (h : OkT x) : subs x = us x := by
  have k := us_ok h
  have no : ∀ d ∈ ([47, 92, 58, 59, 34, 40, 41, 107] : List Nat), d ∉ (us x).cps.toList := fun d hd hm => okc_not (k d hm) hd rfl
  unfold subs
  rw [repl_blank]
  dsimp only
  rw [repl_none (us x) "/" "-" 47 (by decide) (no _ (by decide)), repl_none (us x) "\\" "-" 92 (by decide) (no _ (by decide)), repl_none (us x) ":" "-" 58 (by decide) (no _ (by decide)), repl_none (us x) ";" "-" 59 (by decide) (no _ (by decide)),
    repl_none (us x) "\"" "-" 34 (by decide) (no _ (by decide)), repl_none (us x) "(" "-" 40 (by decide) (no _ (by decide)), repl_none (us x) ")" "-" 41 (by decide) (no _ (by decide)), repl_none (us x) "unknown" "" 107 (by decide) (no _ (by decide))]
/-! ## strip -/
theorem strip_parts (x : Str) : ∃ a b, x.cps.toList = a ++ (Txt.strip x).cps.toList ++ b ∧ (∀ c ∈ a, Unicode.isSpace c = true) ∧ ∀ c ∈ b, Unicode.isSpace c = true := by
  have e : Txt.strip x = Builtin.Str.strSub x (stripLo Unicode.isSpace true x) (stripHi Unicode.isSpace true x (stripLo Unicode.isSpace true x)) := PyProof.Rows.stripBy_eq _ _ _ _
  rw [e, StrLaws.strSub_toList]
  unfold stripHi stripLo
  rw [if_pos rfl, if_pos rfl, drop_tw]
  have hx : x.length = x.cps.toList.length := by simp [Str.length]
  rw [hx]
  generalize x.cps.toList = T
  have hT : T = T.takeWhile Unicode.isSpace ++ T.dropWhile Unicode.isSpace := (List.takeWhile_append_dropWhile).symm
  have hl : (T.takeWhile Unicode.isSpace).length + (T.dropWhile Unicode.isSpace).length = T.length := by rw [← List.length_append, ← hT]
  generalize T.dropWhile Unicode.isSpace = M at hT hl ⊢
  have ha := mem_tw (p := Unicode.isSpace) T
  generalize T.takeWhile Unicode.isSpace = a at hT hl ha ⊢
  refine ⟨a, M.drop (M.length - (M.reverse.takeWhile Unicode.isSpace).length), ?_, ha, fun c hc => ?_⟩
  · have h2 : T.length - (M.reverse.takeWhile Unicode.isSpace).length - a.length = M.length - (M.reverse.takeWhile Unicode.isSpace).length := by omega
    rw [h2, List.append_assoc, List.take_append_drop, ← hT]
  · have h3 : (M.drop (M.length - (M.reverse.takeWhile Unicode.isSpace).length)).reverse = M.reverse.take (M.reverse.takeWhile Unicode.isSpace).length := by
      rw [List.reverse_drop]
      congr 1
      have : (M.reverse.takeWhile Unicode.isSpace).length ≤ M.reverse.length := (List.takeWhile_prefix _).length_le
      rw [List.length_reverse] at this
      omega
    rw [take_tw] at h3
    have : c ∈ M.reverse.takeWhile Unicode.isSpace := by rw [← h3]; exact List.mem_reverse.mpr hc
    exact mem_tw _ _ this
theorem rk_blanks (w : World) : ∀ (a t : List Nat), (∀ c ∈ a, c = 95) → rkA w [] (a ++ t) = rkA w [] t
  | [], _, _ => rfl
  | c :: a, t, h => by
    have hc := h c (.head _)
    subst hc
    have := rkA_sep w 95 (by decide) [] [] (a ++ t)
    rw [List.nil_append, rkA_nil, r1_nil, List.nil_append] at this
    rw [List.cons_append, this]
    exact rk_blanks w a t fun c hc => h c (.tail _ hc)
theorem rk_blanksR (w : World) (a : List Nat) (h : ∀ c ∈ a, c = 95) (t : List Nat) : rkA w [] (t ++ a) = rkA w [] t := by
  cases a with
  | nil => rw [List.append_nil]
  | cons c a =>
    have hc := h c (.head _)
    subst hc
    rw [rkA_sep w 95 (by decide)]
    have := rk_blanks w a [] fun c hc => h c (.tail _ hc)
    rw [List.append_nil] at this
    rw [this, rkA_nil, r1_nil, List.append_nil]
theorem rk_strip (w : World) {x : Str} (h : OkT x) : rk w (us (Txt.strip x)) = rk w (us x) := by
  obtain ⟨a, b, e, ha, hb⟩ := strip_parts x
  have sp : ∀ c, c ∈ x.cps.toList → Unicode.isSpace c = true → c = 32 := fun c hc hs => by
    have := h c hc
    unfold okc at this
    rw [hs] at this
    simp at this
    exact this.1.1
  unfold rk
  rw [us_list, us_list, e, List.map_append, List.map_append, List.append_assoc, rk_blanks, rk_blanksR]
  · intro c hc
    obtain ⟨d, hd, rfl⟩ := List.mem_map.mp hc
    rw [if_pos (sp d (by rw [e]; simp [hd]) (hb d hd))]
  · intro c hc
    obtain ⟨d, hd, rfl⟩ := List.mem_map.mp hc
    rw [if_pos (sp d (by rw [e]; simp [hd]) (ha d hd))]
end Mine
end
section
open PySem PySem.W PyProof.Rows PySem.Calls
set_option maxRecDepth 100000
set_option maxHeartbeats 4000000
namespace Mine
theorem rk_base (w : World) : ∀ p ∈ base, rk w p.text = p.ranks := by
  intro p hp
  simp only [base, List.mem_cons, List.not_mem_nil, or_false] at hp
  rcases hp with rfl | rfl | rfl | rfl | rfl | rfl | rfl | rfl | rfl
  all_goals kernel_rfl!
theorem rk_plain (w : World) : ∀ v ∈ plains, rk w (plainP v).text = (plainP v).ranks := by
  intro v hv
  simp only [plains, List.mem_cons, List.not_mem_nil, or_false] at hv
  rcases hv with rfl | rfl | rfl | rfl | rfl | rfl | rfl | rfl | rfl | rfl | rfl | rfl
  all_goals kernel_rfl!
theorem rk_part (w : World) : ∀ p ∈ allParts, rk w p.text = p.ranks := of_parts (rk_base w) (rk_plain w)
theorem seen_base (w : World) : ∀ p ∈ base, rk w (us p.text) = p.seen := by
  intro p hp
  simp only [base, List.mem_cons, List.not_mem_nil, or_false] at hp
  rcases hp with rfl | rfl | rfl | rfl | rfl | rfl | rfl | rfl | rfl
  all_goals kernel_rfl!
theorem seen_plain (w : World) : ∀ v ∈ plains, rk w (us (plainP v).text) = (plainP v).seen := by
  intro v hv
  simp only [plains, List.mem_cons, List.not_mem_nil, or_false] at hv
  rcases hv with rfl | rfl | rfl | rfl | rfl | rfl | rfl | rfl | rfl | rfl | rfl | rfl
  all_goals kernel_rfl!
theorem seen_part (w : World) : ∀ p ∈ allParts, rk w (us p.text) = p.seen := of_parts (seen_base w) (seen_plain w)
theorem rk_kind (w : World) : ∀ k ∈ kinds, rk w (us k) = kindRanks k := by
  intro p hp
  simp only [kinds, List.mem_cons, List.not_mem_nil, or_false] at hp
  rcases hp with rfl | rfl | rfl | rfl | rfl | rfl
  all_goals kernel_rfl!
theorem okParts_c : allParts.all (fun p => p.text.cps.toList.all okc) = true := by decide +kernel
theorem okKinds_c : kinds.all (fun p => p.cps.toList.all okc && decide (p.length ≤ 7)) = true := by decide +kernel
theorem rk_txt (w : World) {l : List Part} {n : Nat} (h : Lst l n) : rk w (txt l) = l.flatMap Part.ranks := by
  unfold txt
  rw [txt_join, rk_join w "." (by decide) (by decide), List.flatMap_map]
  have : ∀ l : List Part, (∀ p ∈ l, p ∈ allParts) → l.flatMap (fun p => rk w p.text) = l.flatMap Part.ranks := by
    intro l
    induction l with
    | nil => intro _; rfl
    | cons p l ih =>
      intro hl
      rw [List.flatMap_cons, List.flatMap_cons, rk_part w p (hl p (.head _)), ih fun q hq => hl q (.tail _ hq)]
  exact this l h.ok
theorem seen_txt (w : World) {l : List Part} {n : Nat} (h : Lst l n) : rk w (us (txt l)) = l.flatMap Part.seen := by
  unfold txt
  have e : us (Str.ofString ".") = Str.ofString "." := by decide +kernel
  rw [txt_join, us_join, e, rk_join w "." (by decide) (by decide), List.flatMap_map, List.flatMap_map]
  have : ∀ l : List Part, (∀ p ∈ l, p ∈ allParts) → l.flatMap (fun p => rk w (us p.text)) = l.flatMap Part.seen := by
    intro l
    induction l with
    | nil => intro _; rfl
    | cons p l ih =>
      intro hl
      rw [List.flatMap_cons, List.flatMap_cons, seen_part w p (hl p (.head _)), ih fun q hq => hl q (.tail _ hq)]
  exact this l h.ok
theorem ok_txt {l : List Part} {n : Nat} (h : Lst l n) : OkT (txt l) := by
  intro c hc
  unfold txt at hc
  rw [txt_join] at hc
  rcases mem_join _ _ hc with hc | ⟨q, hq, hc⟩
  · have hc : c ∈ [46] := hc
    rw [List.mem_singleton.mp hc]; decide +kernel
  · obtain ⟨p, hp, rfl⟩ := List.mem_map.mp hq
    exact List.all_eq_true.mp (List.all_eq_true.mp okParts_c p (h.ok p hp)) c hc
theorem kind_ok {k : Str} (h : k ∈ kinds) : OkT k ∧ k.length ≤ 7 := by
  have := List.all_eq_true.mp okKinds_c k h
  rw [Bool.and_eq_true, decide_eq_true_eq] at this
  exact ⟨fun c hc => List.all_eq_true.mp this.1 c hc, this.2⟩
theorem mem_part (y : Str) {c : Nat} : ∀ (l : List Str) (p : Str), p ∈ l → c ∈ p.cps.toList → c ∈ (Str.join y l).cps.toList
  | [q], p, hp, hc => by rw [List.mem_singleton.mp hp] at hc; exact hc
  | q :: q2 :: l, p, hp, hc => by
    rw [join_cons]
    rcases List.mem_cons.mp hp with rfl | hp
    · exact List.mem_append_left _ (List.mem_append_left _ hc)
    · exact List.mem_append_right _ (mem_part y (q2 :: l) p hp hc)
theorem ok_strip {x : Str} (h : OkT x) : OkT (Txt.strip x) := by
  obtain ⟨a, b, e, _, _⟩ := strip_parts x
  exact fun c hc => h c (by rw [e]; simp [hc])
theorem ok_join {y : Str} {l : List Str} (hy : OkT y) (hl : ∀ p ∈ l, OkT p) : OkT (Str.join y l) := by
  intro c hc
  rcases mem_join y l hc with hc | ⟨p, hp, hc⟩
  · exact hy c hc
  · exact hl p hp c hc
theorem ok_red {a b : Str} (h : Red a b) (ha : OkT a) : OkT b := by
  induction h with
  | refl => exact ha
  | @dash b _ ih =>
    obtain ⟨p, l, e1, e2⟩ := repl_parts b "--" "-"
    rw [e2]
    refine ok_join ?_ fun q hq c hc => ih c (by rw [e1]; exact mem_part _ _ q hq hc)
    intro c hc
    have hc : c ∈ [45] := hc
    rw [List.mem_singleton.mp hc]; decide +kernel
  | @last b _ h0 _ ih =>
    rw [slice_last b h0]
    exact fun c hc => ih c (List.mem_of_mem_take hc)
theorem ok_name {x1 x2 x3 : Str} (h1 : OkT x1) (h2 : OkT x2) (h3 : OkT x3) : OkT (pfName x1 x2 x3) := by
  unfold pfName
  rw [txt_join]
  refine ok_join ?_ fun p hp => ?_
  · intro c hc
    have hc : c ∈ [45] := hc
    rw [List.mem_singleton.mp hc]; decide +kernel
  · obtain ⟨q, hq, rfl⟩ := List.mem_map.mp hp
    have hq := (List.mem_filter.mp hq).1
    simp only [List.mem_cons, List.not_mem_nil, or_false] at hq
    rcases hq with rfl | rfl | rfl
    · exact ok_strip h1
    · exact ok_strip h2
    · exact ok_strip h3
theorem name_len {x1 x2 x3 : Str} {B : Nat} (h1 : x1.length ≤ B) (h2 : x2.length ≤ B) (h3 : x3.length ≤ B) : (pfName x1 x2 x3).length ≤ 3 * B + 3 := by
  unfold pfName
  rw [txt_join]
  refine Nat.le_trans (StrLaws.join_length_le _ _) ?_
  have hl : (([x1, x2, x3] : List Str).filter fun x => !(x.length == 0)).length ≤ 3 := List.length_filter_le _ _
  have e : (Str.ofString "-").length = 1 := rfl
  have hs := StrLaws.sumLen_le (B := B) ((([x1, x2, x3] : List Str).filter fun x => !(x.length == 0)).map Txt.strip) fun y hy => by
    obtain ⟨q, hq, rfl⟩ := List.mem_map.mp hy
    have hq := (List.mem_filter.mp hq).1
    simp only [List.mem_cons, List.not_mem_nil, or_false] at hq
    refine Nat.le_trans (len_strip _) ?_
    rcases hq with rfl | rfl | rfl <;> assumption
  rw [List.length_map] at hs ⊢
  rw [e]
  have := Nat.mul_le_mul_right B hl
  omega
theorem flat_filter (w : World) : ∀ l : List Str, (∀ x ∈ l, OkT x) → ((l.filter fun x => !(x.length == 0)).map Txt.strip).flatMap (fun x => rk w (us x)) = l.flatMap fun x => rk w (us x)
  | [], _ => rfl
  | x :: l, h => by
    have ih := flat_filter w l fun y hy => h y (.tail _ hy)
    rw [List.filter_cons, List.flatMap_cons]
    by_cases h0 : x.length = 0
    · rw [if_neg (by simp [h0]), ih]
      have hx : x.cps.toList = [] := List.length_eq_zero_iff.mp (by simpa [Str.length] using h0)
      have : rk w (us x) = [] := by unfold rk; rw [us_list, hx, List.map_nil, rkA_nil, r1_nil]
      rw [this]; rfl
    · rw [if_pos (by simp [h0]), List.map_cons, List.flatMap_cons, ih, rk_strip w (h x (.head _))]
/-- the name that _platform makes, as a list of ranks -/
theorem plat_rk (w : World) {k : Str} {old new : List Part} {n : Nat} (hk : k ∈ kinds) (ho : Lst old n) (hn : Lst new n) {x : Str} (h : Red (subs (pfName k (txt old) (txt new))) x) :
    rk w x = kindRanks k ++ (old ++ new).flatMap Part.seen := by
  have k1 := (kind_ok hk).1
  have k2 := ok_txt ho
  have k3 := ok_txt hn
  rw [red_rk w h, subs_us (ok_name k1 k2 k3)]
  unfold pfName
  have e : us (Str.ofString "-") = Str.ofString "-" := by decide +kernel
  rw [txt_join, us_join, e, rk_join w "-" (by decide) (by decide), List.flatMap_map, flat_filter w _ (by
    intro x hx
    simp only [List.mem_cons, List.not_mem_nil, or_false] at hx
    rcases hx with rfl | rfl | rfl <;> assumption)]
  rw [List.flatMap_cons, List.flatMap_cons, List.flatMap_cons, List.flatMap_nil, List.append_nil, rk_kind w k hk, seen_txt w ho, seen_txt w hn, List.flatMap_append]
theorem red_len {k : Str} {old new : List Part} {n : Nat} (hk : k ∈ kinds) (ho : Lst old n) (hn : Lst new n) (hn2 : 2 ≤ n) {x : Str} (h : Red (subs (pfName k (txt old) (txt new))) x) : x.length ≤ 12 * n + 3 := by
  have k1 := kind_ok hk
  have e := subs_us (ok_name k1.1 (ok_txt ho) (ok_txt hn))
  refine Nat.le_trans h.len ?_
  rw [e]
  have : (us (pfName k (txt old) (txt new))).length = (pfName k (txt old) (txt new)).length := by
    show (List.map _ _).toArray.size = _
    rw [List.size_toArray, List.length_map]; simp [Str.length]
  rw [this]
  have := name_len (x1 := k) (x2 := txt old) (x3 := txt new) (B := n * 4) (by have := k1.2; omega) ho.short hn.short
  omega
theorem red_ok {k : Str} {old new : List Part} {n : Nat} (hk : k ∈ kinds) (ho : Lst old n) (hn : Lst new n) {x : Str} (h : Red (subs (pfName k (txt old) (txt new))) x) : OkT x := by
  have k := ok_name (kind_ok hk).1 (ok_txt ho) (ok_txt hn)
  refine ok_red h ?_
  rw [subs_us k]
  exact us_ok k
end Mine
end
section
open PySem PySem.W PyProof.Rows PySem.Calls
set_option maxRecDepth 100000
set_option maxHeartbeats 400000
namespace Mine
/-! ## the walk of the law: what stays fixed, what holds between the steps -/
structure Wk where
  w : World
  mg : Str → Option Value
  mb : Str → Option Value
  h₁ : Heap
  bm : Addr
  ob : Obj
  P : Addr
  L : Addr
  o : OsState
structure LS (K : Wk) (m : Str → Option Value) (s : Shared) : Prop where
  ex : ∃ hb ps, Based K.h₁ hb 65 K.P ps ∧ Gd K.w K.mg K.mb hb ∧ BMod hb mainGlobals K.mg K.bm K.ob ∧ Fr hb K.L s.heap m
  gens : AllBare s.gens
  os : s.os = K.o
  out : K.h₁.get? K.L = none
structure Sp (K : Wk) (s s' : Shared) : Prop where
  keep : ∀ b o, b ≠ K.L → b ≠ K.P → s.heap.get? b = some o → s'.heap.get? b = some o
section
variable {K : Wk} {m m' : Str → Option Value} {s s' s'' : Shared}
theorem Sp.refl (K : Wk) (s : Shared) : Sp K s s := ⟨fun _ _ _ _ e => e⟩
theorem Sp.trans (x : Sp K s s') (y : Sp K s' s'') : Sp K s s'' := ⟨fun b o h1 h2 e => y.keep b o h1 h2 (x.keep b o h1 h2 e)⟩
theorem Sp.of (k : ∀ b o, s.heap.get? b = some o → s'.heap.get? b = some o) : Sp K s s' := ⟨fun b o _ _ e => k b o e⟩
theorem Sp.tok (x : Sp K s s') (t : Nat) : Sp K s { s' with toks := t } := ⟨x.keep⟩
theorem LS.lq (S : LS K m s) (k : Sp K s s') : Lq s.heap s'.heap := by
  obtain ⟨hb, ps, B, _, _, F⟩ := S.ex
  intro b o xs n _ e d
  refine k.keep b o (fun q => ?_) (fun q => ?_) e
  · obtain ⟨oL, es, ep, hL, hLd, _⟩ := F.ns
    rw [q, hL] at e; cases e
    rw [hLd] at d; cases d
  · rw [q, (B.tabAt F).2] at e; cases e; cases d
theorem LS.tok (S : LS K m s) (t : Nat) : LS K m { s with toks := t } := ⟨S.ex, S.gens, S.os, S.out⟩
theorem LS.keeps (S : LS K m s) (k : ∀ b o, s.heap.get? b = some o → s'.heap.get? b = some o) (hg : s'.gens = s.gens) (ho : s'.os = s.os) : LS K m s' := by
  obtain ⟨hb, ps, B, G, Mb, F⟩ := S.ex
  exact ⟨⟨hb, ps, B, G, Mb, F.keeps k⟩, hg ▸ S.gens, ho.trans S.os, S.out⟩
theorem LS.qt (S : LS K m s) (q : Qt s s') : LS K m s' := S.keeps q.keep q.gens q.os
theorem LS.gd (S : LS K m s) : Gd K.w K.mg K.mb s.heap := by
  obtain ⟨hb, ps, B, G, Mb, F⟩ := S.ex
  exact G.keeps F.keep
/-- the object of the law's frame -/
theorem LS.obj (S : LS K m s) : ∃ oL es ep, s.heap.get? K.L = some oL ∧ oL.data = .dict es ep := by
  obtain ⟨hb, ps, B, G, Mb, F⟩ := S.ex
  obtain ⟨oL, es, ep, hL, hLd, _⟩ := F.ns
  exact ⟨oL, es, ep, hL, hLd⟩
theorem LS.kp {oL : Obj} (S : LS K m s) (hL : s.heap.get? K.L = some oL) (k : Kp K.L oL s s') : LS K m s' := by
  obtain ⟨hb, ps, B, G, Mb, F⟩ := S.ex
  refine ⟨⟨hb, ps, B, G, Mb, ⟨?_, fun b o e => ?_, F.above⟩⟩, k.gens ▸ S.gens, k.os.trans S.os, S.out⟩
  · obtain ⟨o, es, ep, ho, hd, hr⟩ := F.ns
    rw [hL] at ho; cases ho
    obtain ⟨sl, hsl⟩ := k.law
    exact ⟨_, es, ep, hsl, hd, hr⟩
  · refine k.keep b o (fun q => ?_) (F.keep b o e)
    rw [q, B.fresh S.out] at e; cases e
theorem Sp.kp {oL : Obj} (k : Kp K.L oL s s') : Sp K s s' := ⟨fun b o h _ e => k.keep b o h e⟩
end
section
variable {prog : Program} {A : Around} {E : Value → Shared → Prop} {K : Wk} {m : Str → Option Value} {s : Shared} {name : Str} {scope : Scope} {a : Addr} {cd : Value}
theorem ldL {x : Str} {pos : Pos} {v : Value} {Q : Value → Shared → Prop} (S : LS K m s) (hv : m x = some v) (h : Q v s)
    (hk : scope.kind = .function := by rfl) (hl : (envOf name scope K.L a cd).kindOf x = some .local := by rfl)
    (hd : (x == ("__debug__" : Str)) = false := by decide) : wpAny (model prog K.w) A (eval (.Name x pos) (envOf name scope K.L a cd)) Q E s := by
  obtain ⟨hb, ps, B, G, Mb, F⟩ := S.ex
  exact ld F hv h hk hl hd
theorem stL {x : Str} {v : Value} {Q : Unit → Shared → Prop} (S : LS K m s)
    (h : ∀ s', LS K (fun y => if y = x then some v else m y) s' → Sp K s s' → Q () s')
    (hk : scope.kind = .function := by rfl) (hl : (envOf name scope K.L a cd).kindOf x = some .local := by rfl) :
    wpAny (model prog K.w) A (storeName (envOf name scope K.L a cd) x v) Q E s := by
  obtain ⟨hb, ps, B, G, Mb, F⟩ := S.ex
  refine stS F (fun h' tk hs F' => h _ ⟨⟨hb, ps, B, G, Mb, F'⟩, S.gens, S.os, S.out⟩ ⟨fun b o h1 _ e => (hs.2 b h1).trans e⟩) hk hl
theorem newTupleL {vs : List Value} {ds : List PyData} {Q : Value → Shared → Prop} (S : LS K m s) (r : RdAll Every s.heap vs ds)
    (h : ∀ v s', LS K m s' → Sp K s s' → Rd Every s'.heap v (.tuple ds) → Q v s') (hsz : vs.length ≤ sizeLine := by size_fits) : wpAny (model prog K.w) A (newTuple vs) Q E s := by
  obtain ⟨hb, ps, B, G, Mb, F⟩ := S.ex
  exact newTuple' F r (fun a s' q R => h _ s' (S.qt q.toQt) (.of q.keep) R.all) hsz
theorem newListL {vs : List Value} {ds : List PyData} {Q : Value → Shared → Prop} (S : LS K m s) (r : RdAll Every s.heap vs ds)
    (h : ∀ v s', LS K m s' → Sp K s s' → Rd Every s'.heap v (.list ds) → Q v s') (hsz : vs.length ≤ sizeLine := by size_fits) : wpAny (model prog K.w) A (newList vs) Q E s := by
  obtain ⟨hb, ps, B, G, Mb, F⟩ := S.ex
  exact newList' F r (fun a s' q R => h _ s' (S.qt q.toQt) (.of q.keep) R.all) hsz
theorem addListL {l b : Value} {ds es : List PyData} {Q : Value → Shared → Prop} (S : LS K m s) (r1 : Rd Every s.heap l (.list ds)) (r2 : Rd Every s.heap b (.list es)) (hsz : ds.length + es.length ≤ 100000)
    (h : ∀ c s', LS K m s' → Sp K s s' → Rd Every s'.heap c (.list (ds ++ es)) → Q c s') : wpAny (model prog K.w) A (binaryOp .Add l b) Q E s := by
  obtain ⟨hb, ps, B, G, Mb, F⟩ := S.ex
  exact addL F r1 r2 hsz (fun c s' q R => h _ s' (S.qt q.toQt) (.of q.keep) R.all)
/-- two values that read as the same data are equal -/
theorem eqL {v v' : Value} {d : PyData} {Q : Value → Shared → Prop} (r1 : Rd Every s.heap v d) (r2 : Rd Every s.heap v' d) (hd : SeqAt.shaped d = true) (hu : A.units + 64 < cLine) (h : Q (.bool true) s) :
    wpAny (model prog K.w) A (compareOp .Eq v v') Q E s := by
  obtain ⟨_, q1⟩ := r1.reads
  obtain ⟨_, q2⟩ := r2.reads
  refine eq_dataH q1 q2 hd hd hu ?_
  rw [SeqAt.eqv_refl d (SeqAt.canLay_of_shaped hd)]
  exact h
def flatOk : PyData → Bool
  | .int _ => true
  | .str x => PyData.strOk x
  | _ => false
theorem flat_shaped {l : List PyData} (h : ∀ d ∈ l, flatOk d = true) : PyData.canLayAll0 l = true ∧ PyData.depthAll l = 0 := by
  induction l with
  | nil => exact ⟨rfl, rfl⟩
  | cons d l ih =>
    obtain ⟨h1, h2⟩ := ih fun x hx => h x (.tail _ hx)
    have hd := h d (.head _)
    cases d with
    | int i => exact ⟨by rw [PyData.canLayAll0, h1]; rfl, by rw [PyData.depthAll, h2]; rfl⟩
    | str x => exact ⟨by rw [PyData.canLayAll0, h1, PyData.canLay0, show PyData.strOk x = true from hd]; rfl, by rw [PyData.depthAll, h2]; rfl⟩
    | _ => cases hd
theorem shaped_list {l : List PyData} (h : ∀ d ∈ l, flatOk d = true) : SeqAt.shaped (.list l) = true := by
  obtain ⟨h1, h2⟩ := flat_shaped h
  unfold SeqAt.shaped
  rw [PyData.canLay0, h1, PyData.depth, h2]; rfl
theorem shaped_tuple {l : List PyData} (h : ∀ d ∈ l, flatOk d = true) : SeqAt.shaped (.tuple l) = true := by
  obtain ⟨h1, h2⟩ := flat_shaped h
  unfold SeqAt.shaped
  rw [PyData.canLay0, h1, PyData.depth, h2]; rfl
end
section
variable {prog : Program} {A : Around} {E : Value → Shared → Prop} {Q : Value → Shared → Prop} {K : Wk} {m : Str → Option Value} {s : Shared} {name : Str} {scope : Scope} {a : Addr} {cd : Value}
theorem envL_of (hk : scope.kind = .function) {oL : Obj} (hd : ∃ es ep, oL.data = .dict es ep) : EnvL (envOf name scope K.L a cd) K.L oL :=
  ⟨rfl, by show scope.kind ≠ .module; rw [hk]; nofun, hd⟩
theorem cvL {x : Str} {t : Tok} (S : LS K m s) (hfr : A.frames = some [envOf name scope K.L a cd]) (hk : scope.kind = .function) (hd : A.depth < 500) (hh : A.handled = none)
    (hx : x.length ≤ 600) (hc : ∀ c ∈ x.cps.toList, c < 16 ^ 8) (h : ∀ v s', LS K m s' → Sp K s s' → Rd Every s'.heap v (.list (rk K.w x)) → Q v s') :
    wpC (model prog K.w) A (call (.ref 44) [.str x t]) Q E s := by
  obtain ⟨oL, es, ep, hL, hLd⟩ := S.obj
  obtain ⟨hb, ps, B, G, Mb, F⟩ := id S.ex
  refine cv_spec G F.keep (B.fresh S.out) (Fr.size F) ⟨oL.slots, hL⟩ (envL_of hk ⟨_, _, hLd⟩) hfr hd hh hx hc fun D s' kp hD => ?_
  obtain ⟨vs, n, e, r⟩ := hD
  rw [cmpv_rk] at r
  exact h _ s' (S.kp hL kp) (.kp kp) (.list trivial e rfl rfl (r.weak fun _ _ => trivial))
end
end Mine
end
section
open PySem PySem.W PyProof.Rows PySem.Calls
set_option maxRecDepth 100000
set_option maxHeartbeats 400000
namespace Mine
theorem plain_len : plains.all (fun n => decide ((Str.ofString (toString (n - 3))).length ≤ 5) && decide ((Str.ofString (toString n)).length ≤ 5)) = true := by decide +kernel
theorem KF_classed (w : World) : kb_classed (KF w) = true := by kernel_rfl!
section
variable {prog : Program} {A : Around} {E : Value → Shared → Prop} {Q : Value → Shared → Prop} {K : Wk} {m : Str → Option Value} {s : Shared} {name : Str} {scope : Scope} {a : Addr} {cd : Value}
theorem ldGl {x : Str} {pos : Pos} {v : Value} (S : LS K m s) (hv : K.mg x = some v) (h : Q v s)
    (hk : scope.kind = .function := by rfl) (hl : (envOf name scope K.L a cd).kindOf x = some .globalImplicit := by rfl)
    (hd : (x == ("__debug__" : Str)) = false := by decide) : wpAny (model prog K.w) A (eval (.Name x pos) (envOf name scope K.L a cd)) Q E s := by
  obtain ⟨hb, ps, B, G, Mb, F⟩ := S.ex
  exact ld_global_at F G.T.g hv h hk hl hd
theorem ldBl {x : Str} {pos : Pos} {v : Value} (S : LS K m s) (hm : K.mg x = none) (hv : K.mb x = some v) (h : Q v s)
    (hk : scope.kind = .function := by rfl) (hl : (envOf name scope K.L a cd).kindOf x = some .globalImplicit := by rfl)
    (hd : (x == ("__debug__" : Str)) = false := by decide) : wpAny (model prog K.w) A (eval (.Name x pos) (envOf name scope K.L a cd)) Q E s := by
  obtain ⟨hb, ps, B, G, Mb, F⟩ := S.ex
  exact ld_builtin_at F G.T.g hm G.T.b hv h hk hl hd
theorem sp_tuple3 {h : Heap} {D : Addr} {n : Nat} {x y z : Str} {u1 u2 u3 : Tok} (e : h.get? D = some { cls := .type "tuple", data := .seq #[.str x u1, .str y u2, .str z u3] n }) : Rd Every h (.ref D) (.tuple [.str x, .str y, .str z]) :=
  .tuple trivial e rfl rfl (.cons (.str _ _) (.cons (.str _ _) (.cons (.str _ _) .nil)))
theorem saL {k : Str} {p : Part} {r : List Part} {v : Str} {t1 t2 t3 : Tok} (S : LS K m s) (hfr : A.frames = some [envOf name scope K.L a cd]) (hk : scope.kind = .function) (hd : A.depth < 500) (hh : A.handled = none)
    (hl : Lst (p :: r) 12) (h : ∀ z s', LS K m s' → Sp K s s' → Rd Every s'.heap z (.tuple [.str (winK (midP k p r).1), .str (txt (midP k p r).2), .str v]) → Q z s') :
    wpC (model prog K.w) A (call (.ref 59) [.str k t1, .str (txt (p :: r)) t2, .str v t3]) Q E s := by
  obtain ⟨oL, es, ep, hL, hLd⟩ := S.obj
  obtain ⟨hb, ps, B, G, Mb, F⟩ := id S.ex
  have hp := partF (hl.ok p (.head _))
  have hs := hl.split
  have hhd : (Txt.split (txt (p :: r)) ".").headD "" = p.text := by rw [hs]; rfl
  have htl : (Txt.split (txt (p :: r)) ".").tail = r.map Part.text := by rw [hs]; rfl
  have hr : Lst (p :: r) 12 := hl
  refine sa_spec G F.keep (B.fresh S.out) (Fr.size F) ⟨oL.slots, hL⟩ (envL_of hk ⟨_, _, hLd⟩) hfr hd hh ?_ ?_ ?_ ?_ fun D s' kp hD => ?_
  · have := hl.short; omega
  · rw [hhd]
    exact ⟨Nat.le_trans hp.len (by decide), fun c hc => Nat.lt_trans (hp.cps c hc).1 (by decide)⟩
  · intro n hn
    rw [hhd, hp.num] at hn
    obtain ⟨h1, h2⟩ := hp.small n hn
    refine ⟨h1, ?_⟩
    rw [htl, List.map_cons, List.sum_cons]
    have h3 := List.all_eq_true.mp plain_len n h2
    rw [Bool.and_eq_true, decide_eq_true_eq] at h3
    have h4 := StrLaws.sumLen_le (B := 3) (r.map Part.text) fun q hq => by
      obtain ⟨x, hx, rfl⟩ := List.mem_map.mp hq
      exact (partF (hl.ok x (.tail _ hx))).len
    have h5 := hl.len
    rw [List.length_cons] at h5
    rw [List.length_map] at h4 ⊢
    omega
  · rw [hs, List.length_map]
    exact Nat.le_trans hl.len (by decide)
  · obtain ⟨n, u1, u2, u3, e⟩ := hD
    rw [sa_kind hl, sa_rel hl] at e
    exact h _ s' (S.kp hL kp) (.kp kp) (sp_tuple3 e)
theorem nvLaw {l : List Part} {q : Part} {t1 t2 : Tok} (S : LS K m s) (hfr : A.frames = some [envOf name scope K.L a cd]) (hk : scope.kind = .function) (hd : A.depth < 500) (hh : A.handled = none)
    (hl : Lst l 12) (hq : q ∈ allParts) (h : ∀ t s', LS K m s' → Sp K s s' → Q (.str (txt (normP (addP l q))) t) s') :
    wpC (model prog K.w) A (call (.ref 52) [.str (txt l) t1, .str q.text t2]) Q E s := by
  obtain ⟨oL, es, ep, hL, hLd⟩ := S.obj
  obtain ⟨hb, ps, B, G, Mb, F⟩ := id S.ex
  have ha := add_lst hl hq
  have hn := nvL_eq (q := q) hl
  refine nv_spec G F.keep (B.fresh S.out) (Fr.size F) ⟨oL.slots, hL⟩ (envL_of hk ⟨_, _, hLd⟩) hfr hd hh ?_ ?_ ?_ ?_ fun t s' kp => ?_
  · have := hl.short; omega
  · intro x hx
    rw [hn] at hx
    obtain ⟨p, hp, rfl⟩ := List.mem_map.mp hx
    have hp := partF (ha.ok p hp)
    exact ⟨Nat.le_trans hp.len (by decide), fun c hc => Nat.lt_trans (hp.cps c hc).1 (by decide), fun k hk => (hp.small k (hp.num ▸ hk)).1⟩
  · rw [hn, List.length_map]
    exact Nat.le_trans ha.len (by decide)
  · rw [hn, nvS_eq ha.ok, ← List.map_take]
    have hN := norm_lst ha (by decide)
    have e : (normP (addP l q)).map Part.text = ((if (addP l q).all (fun p => p.num.isSome) then (addP l q).map Part.plain else addP l q).take 3).map Part.text := rfl
    rw [← e]
    have h1 := hN.sum
    have h2 := hN.len
    rw [List.length_map]
    omega
  · rw [nv_txt hl hq]
    exact h t s' (S.kp hL kp) (.kp kp)
theorem pfL {x1 x2 x3 : Str} {t1 t2 t3 : Tok} (S : LS K m s) (hd : A.depth < 500) (hh : A.handled = none) (hw1 : x1.length ≤ 600) (hw2 : x2.length ≤ 600) (hw3 : x3.length ≤ 600)
    (h : ∀ x t s', LS K m s' → Sp K s s' → Red (subs (pfName x1 x2 x3)) x → Q (.str x t) s') :
    wpAny (model prog K.w) A (call (.ref 66) [.str x1 t1, .str x2 t2, .str x3 t3]) Q E s := by
  obtain ⟨hb, ps, B, G, Mb, F⟩ := id S.ex
  refine pf_spec (G.keeps F.keep) (B.codeAt F) (B.tabAt F) B.notStatics (Mb.keeps F.keep) S.gens hd hh hw1 hw2 hw3 fun x t s' ps' hr hx hc' ht' hmore hg ho => ?_
  obtain ⟨more, rfl⟩ := hmore
  obtain ⟨B', F'⟩ := B.grow F hx hc' ht'
  exact h x t s' ⟨⟨_, _, B', ⟨kb_in_regrown B G.K G.T.g (KF_classed K.w), LGe.top_regrown F' G.T B⟩, Mb.regrown B, F'⟩, hg, ho.trans S.os, S.out⟩ ⟨fun b o _ hb e => hx b o hb e⟩ hr
theorem partL {n : Int} {t : Tok} (S : LS K m s) (hd : A.depth < 500) (h : ∀ v s', LS K m s' → Sp K s s' → Rd Every s'.heap v (partAt n).d → Q v s') :
    wpAny (model prog K.w) A (call (.ref 73) [.int n t]) Q E s :=
  part_spec S.gd (by omega) fun r s' q R => h r s' (S.qt q) (.of q.keep) R.all
theorem textL {l : List Part} {v : Value} {n : Nat} (S : LS K m s) (hd : A.depth < 500) (hh : A.handled = none) (hr : Rd Every s.heap v (.list (l.map Part.d))) (hl : Lst l n) (hn : n ≤ 20)
    (h : ∀ t s', LS K m s' → Sp K s s' → Q (.str (txt l) t) s') : wpAny (model prog K.w) A (call (.ref 85) [v]) Q E s :=
  text_spec S.gd (by omega) hh hr (by have := hl.len; omega) (by have := hl.sum; have := hl.len; rw [List.length_map]; omega) fun t s' q => h t s' (S.qt q) (.of q.keep)
theorem Lst.rk {l : List Part} {n : Nat} (hl : Lst l n) : ∀ p ∈ l, p.ranks.length ≤ 100 ∧ ∀ r ∈ p.ranks, flat r := fun p hp => ⟨(partF (hl.ok p hp)).rlen, (partF (hl.ok p hp)).rflat⟩
theorem ranksL {l : List Part} {v : Value} {n : Nat} (S : LS K m s) (hd : A.depth < 500) (hh : A.handled = none) (hr : Rd Every s.heap v (.list (l.map Part.d))) (hl : Lst l n) (hn : n ≤ 20)
    (h : ∀ r s', LS K m s' → Sp K s s' → Rd Every s'.heap r (.list (l.flatMap Part.ranks)) → Q r s') : wpAny (model prog K.w) A (call (.ref 90) [v]) Q E s :=
  ranks_spec S.gd (by omega) hh hr (by have := hl.len; omega) hl.rk fun r s' q R => h r s' (S.qt q) (.of q.keep) R
theorem seenL {l : List Part} {v : Value} {n : Nat} {k : Str} {tk : Tok} (S : LS K m s) (hd : A.depth < 500) (hh : A.handled = none) (hr : Rd Every s.heap v (.list (l.map Part.d))) (hl : Lst l n) (hn : n ≤ 40)
    (h : ∀ r s', LS K m s' → Sp K s s' → Rd Every s'.heap r (.list (kindRanks k ++ l.flatMap Part.seen)) → Q r s') : wpAny (model prog K.w) A (call (.ref 95) [.str k tk, v]) Q E s :=
  seen_spec S.gd (by omega) hh hr (by have := hl.len; omega) hl.rk fun r s' q R => h r s' (S.qt q) (.of q.keep) R
theorem aliasL {p : Part} {r : List Part} {v : Value} {k : Str} {tk : Tok} (S : LS K m s) (hd : A.depth < 400) (hr : Rd Every s.heap v (.list ((p :: r).map Part.d))) (hl : Lst (p :: r) 12)
    (h : ∀ z s', LS K m s' → Sp K s s' → Rd Every s'.heap z (.tuple [.str (winK (midP k p r).1), .list ((midP k p r).2.map Part.d)]) → Q z s') :
    wpAny (model prog K.w) A (call (.ref 102) [.str k tk, v]) Q E s :=
  lalias_spec S.gd (by omega) hr (by have := hl.len; omega) (fun n hn => ((partF (hl.ok p (.head _))).small n hn).1) (Nat.le_trans (partF (hl.ok p (.head _))).len (by decide)) fun z s' q R => h z s' (S.qt q) (.of q.keep) R
theorem lnormL {l : List Part} {v : Value} (S : LS K m s) (hd : A.depth < 400) (hh : A.handled = none) (hr : Rd Every s.heap v (.list (l.map Part.d))) (hl : Lst l 13)
    (h : ∀ z s', LS K m s' → Sp K s s' → Rd Every s'.heap z (.list ((normP l).map Part.d)) → Q z s') : wpAny (model prog K.w) A (call (.ref 107) [v]) Q E s :=
  lnorm_spec S.gd (by omega) hh hr (by have := hl.len; omega) (fun p hp n hn => ((partF (hl.ok p hp)).small n hn).1) fun z s' q R => h z s' (S.qt q) (.of q.keep) R
end
end Mine
end
section
open PySem PySem.W PyProof.Rows PySem.Calls
set_option maxRecDepth 100000
set_option maxHeartbeats 4000000
namespace Mine
section
variable {prog : Program} {A : Around} {E : Value → Shared → Prop} {Q : Value → Shared → Prop} {K : Wk} {m : Str → Option Value} {s : Shared} {name : Str} {scope : Scope} {a : Addr} {cd : Value}
/-- a store, what is known of the names told by equations -/
theorem stM {x : Str} {v : Value} {Q : Unit → Shared → Prop} (S : LS K m s)
    (h : ∀ m' s', m' x = some v → (∀ y, y ≠ x → m' y = m y) → LS K m' s' → Sp K s s' → Q () s')
    (hk : scope.kind = .function := by rfl) (hl : (envOf name scope K.L a cd).kindOf x = some .local := by rfl) :
    wpAny (model prog K.w) A (storeName (envOf name scope K.L a cd) x v) Q E s :=
  stL S (fun s' S' k => h _ s' (if_pos rfl) (fun y hy => if_neg hy) S' k) hk hl
theorem LS.change {d : Addr} {h' : Heap} (S : LS K m s) (hs : Heap.SameBut d s.heap h') (hL : d ≠ K.L) (h0 : K.h₁.get? d = none) : LS K m { s with heap := h' } := by
  obtain ⟨hb, ps, B, G, Mb, F⟩ := S.ex
  exact ⟨⟨hb, ps, B, G, Mb, F.change hs hL (B.fresh h0)⟩, S.gens, S.os, S.out⟩
theorem norm_lst2 {l : List Part} {n : Nat} (h : Lst l n) : Lst (normP l) n := by
  have h3 := norm_lst (l := l) (n := max n 3) (h.mono (Nat.le_max_left _ _)) (Nat.le_max_right _ _)
  refine ⟨h3.ne, h3.ok, ?_⟩
  refine Nat.le_trans ?_ h.len
  unfold normP
  rw [List.length_take]
  refine Nat.le_trans (Nat.min_le_right _ _) ?_
  split
  · rw [List.length_map]; exact Nat.le_refl _
  · exact Nat.le_refl _
/-- at a turn's start and end -/
structure LI (K : Wk) (it ls : Addr) (items : List Value) (i n : Nat) (kind : Str) (old new : List Part) (m : Str → Option Value) (s : Shared) : Prop where
  S : LS K m s
  facts : ∃ v, m "facts" = some v ∧ Rd Every s.heap v (.tuple [.str kind, .str (txt old), .str (txt new)])
  kv : Is m "kind" kind
  ov : ∃ v, m "old" = some v ∧ Rd Every s.heap v (.list (old.map Part.d))
  nv : ∃ v, m "new" = some v ∧ Rd Every s.heap v (.list (new.map Part.d))
  okv : m "ok" = some (.bool true)
  itr : s.heap.IsListIter it ls i
  src : s.heap.IsList ls items.toArray
  hk : kind ∈ kinds
  ho : Lst old n
  hn : Lst new n
structure LI0 (K : Wk) (it ls : Addr) : Prop where
  i0 : K.h₁.get? it = none
  iL : it ≠ K.L
  lL : ls ≠ K.L
  lP : ls ≠ K.P
theorem LS.neP (S : LS K m s) {b : Addr} (h : K.h₁.get? b = none) : b ≠ K.P := by
  obtain ⟨hb, ps, B, _⟩ := S.ex
  intro e
  obtain ⟨_, ht⟩ := B.tab₁
  rw [e, ht.2] at h; cases h
/-- what does not turn comes along -/
theorem LI.fin {it ls : Addr} {items : List Value} {i n n' : Nat} {kind kind' : Str} {old old' new new' : List Part} {m' : Str → Option Value} {s' : Shared} (X : LI K it ls items i n kind old new m s) (X0 : LI0 K it ls)
    (S' : LS K m' s') (k : Sp K s s') (facts : ∃ v, m' "facts" = some v ∧ Rd Every s'.heap v (.tuple [.str kind', .str (txt old'), .str (txt new')])) (kd : Is m' "kind" kind')
    (od : ∃ v, m' "old" = some v ∧ Rd Every s'.heap v (.list (old'.map Part.d))) (nw : ∃ v, m' "new" = some v ∧ Rd Every s'.heap v (.list (new'.map Part.d))) (okv : m' "ok" = some (.bool true)) (hk : kind' ∈ kinds) (ho : Lst old' n') (hn : Lst new' n') :
    LI K it ls items i n' kind' old' new' m' s' := by
  refine ⟨S', facts, kd, od, nw, okv, ?_, ?_, hk, ho, hn⟩
  · obtain ⟨o, e, r⟩ := X.itr
    exact ⟨o, k.keep _ _ X0.iL (X.S.neP X0.i0) e, r⟩
  · obtain ⟨o, e, r⟩ := X.src
    exact ⟨o, k.keep _ _ X0.lL X0.lP e, r⟩
/-- a store of a name that the law does not ask for -/
theorem LI.other {it ls : Addr} {items : List Value} {i n : Nat} {kind : Str} {old new : List Part} {m' : Str → Option Value} {s' : Shared} (X : LI K it ls items i n kind old new m s) (X0 : LI0 K it ls) (S' : LS K m' s') (k : Sp K s s')
    (h : ∀ y ∈ (["facts", "kind", "old", "new", "ok"] : List Str), m' y = m y) : LI K it ls items i n kind old new m' s' := by
  have l := X.S.lq k
  obtain ⟨v1, e1, r1⟩ := X.facts
  obtain ⟨u2, e2⟩ := X.kv
  obtain ⟨v3, e3, r3⟩ := X.ov
  obtain ⟨v4, e4, r4⟩ := X.nv
  exact X.fin X0 S' k ⟨v1, (h _ (by decide +kernel)).trans e1, r1.lq l⟩ ⟨u2, (h _ (by decide +kernel)).trans e2⟩ ⟨v3, (h _ (by decide +kernel)).trans e3, r3.lq l⟩ ⟨v4, (h _ (by decide +kernel)).trans e4, r4.lq l⟩ ((h _ (by decide +kernel)).trans X.okv) X.hk X.ho X.hn
theorem LI.tok {it ls : Addr} {items : List Value} {i n : Nat} {kind : Str} {old new : List Part} (X : LI K it ls items i n kind old new m s) (t : Nat) : LI K it ls items i n kind old new m { s with toks := t } :=
  ⟨X.S.tok t, X.facts, X.kv, X.ov, X.nv, X.okv, X.itr, X.src, X.hk, X.ho, X.hn⟩
theorem iter_lq {it ls : Addr} {i : Nat} {h h' : Heap} (hi : h.IsListIter it ls i) (hx : Heap.ExtBut it h h') : Lq h h' := fun b o xs n _ e d => by
  refine hx b o (fun q => ?_) e
  obtain ⟨o', e', _, hd⟩ := hi
  rw [q, e'] at e; cases e
  rw [hd] at d; cases d
theorem LI.next {it ls : Addr} {items : List Value} {i n : Nat} {kind : Str} {old new : List Part} {h' : Heap} (X : LI K it ls items i n kind old new m s) (X0 : LI0 K it ls) (hi : h'.IsListIter it ls (i + 1)) (hs : Heap.SameBut it s.heap h') :
    LI K it ls items (i + 1) n kind old new m { s with heap := h' } := by
  have l := iter_lq X.itr hs.extBut
  obtain ⟨v1, e1, r1⟩ := X.facts
  obtain ⟨v3, e3, r3⟩ := X.ov
  obtain ⟨v4, e4, r4⟩ := X.nv
  refine ⟨X.S.change hs X0.iL X0.i0, ⟨v1, e1, r1.lq l⟩, X.kv, ⟨v3, e3, r3.lq l⟩, ⟨v4, e4, r4.lq l⟩, X.okv, hi, ?_, X.hk, X.ho, X.hn⟩
  obtain ⟨o, e, hc, q, hd⟩ := X.src
  exact ⟨o, l _ _ _ _ trivial e hd, hc, q, hd⟩
theorem LS.ext {d : Addr} {h' : Heap} (S : LS K m s) (hx : Heap.ExtBut d s.heap h') (hL : d ≠ K.L) (h0 : K.h₁.get? d = none) : LS K m { s with heap := h' } := by
  obtain ⟨hb, ps, B, G, Mb, F⟩ := S.ex
  refine ⟨⟨hb, ps, B, G, Mb, ⟨F.ns.extBut hx (Ne.symm hL), fun b o e => hx b o (fun q => ?_) (F.keep b o e), F.above⟩⟩, S.gens, S.os, S.out⟩
  rw [q, B.fresh h0] at e; cases e
end
end Mine
end
section
open PySem PySem.W PyProof.Rows PySem.Calls
set_option maxRecDepth 100000
set_option maxHeartbeats 4000000
namespace Mine
theorem okRanks : allParts.all (fun p => p.ranks.all flatOk && p.seen.all flatOk) = true := by decide +kernel
theorem okKR : kinds.all (fun k => (kindRanks k).all flatOk) = true := by decide +kernel
theorem Lst.flatR {l : List Part} {n : Nat} (h : Lst l n) : ∀ d ∈ l.flatMap Part.ranks, flatOk d = true := by
  intro d hd
  obtain ⟨p, hp, hd⟩ := List.mem_flatMap.mp hd
  have := List.all_eq_true.mp okRanks p (h.ok p hp)
  rw [Bool.and_eq_true] at this
  exact List.all_eq_true.mp this.1 d hd
theorem flatS {k : Str} {l : List Part} (hk : k ∈ kinds) (h : ∀ p ∈ l, p ∈ allParts) : ∀ d ∈ kindRanks k ++ l.flatMap Part.seen, flatOk d = true := by
  intro d hd
  rcases List.mem_append.mp hd with hd | hd
  · exact List.all_eq_true.mp (List.all_eq_true.mp okKR k hk) d hd
  · obtain ⟨p, hp, hd⟩ := List.mem_flatMap.mp hd
    have := List.all_eq_true.mp okRanks p (h p hp)
    rw [Bool.and_eq_true] at this
    exact List.all_eq_true.mp this.2 d hd
theorem okT_lt {x : Str} (h : OkT x) : ∀ c ∈ x.cps.toList, c < 256 := fun c hc => by
  have := h c hc
  unfold okc at this
  simp only [Bool.and_eq_true, decide_eq_true_eq] at this
  exact this.2
theorem okT_str {x : Str} (h : OkT x) : flatOk (.str x) = true := by
  show PyData.strOk x = true
  unfold PyData.strOk
  rw [Array.all_eq_true']
  intro c hc
  have := okT_lt h c (by simpa using hc)
  exact decide_eq_true (by omega)
theorem flatF {k : Str} {old new : List Part} {n : Nat} (hk : k ∈ kinds) (ho : Lst old n) (hn : Lst new n) : ∀ d ∈ [PyData.str k, .str (txt old), .str (txt new)], flatOk d = true := by
  intro d hd
  simp only [List.mem_cons, List.not_mem_nil, or_false] at hd
  rcases hd with rfl | rfl | rfl
  · exact okT_str (kind_ok hk).1
  · exact okT_str (ok_txt ho)
  · exact okT_str (ok_txt hn)
end Mine
end
section
open PySem PySem.W PyProof.Rows PySem.Calls
set_option maxRecDepth 100000
set_option maxHeartbeats 4000000
namespace Mine
theorem txt_one (q : Part) : txt [q] = q.text := by unfold txt; rw [txt_join]; rfl
theorem lst_part {p : Part} (h : p ∈ allParts) : Lst [p] 1 := ⟨by simp, fun q hq => by rw [List.mem_singleton.mp hq]; exact h, Nat.le_refl _⟩
theorem rd_ints {h : Heap} : ∀ {vs : List Value} {ns : List Int} {i : Nat}, RdAll Every h vs (ns.map .int) → i < ns.length → ∃ n t, vs[i]? = some (.int n t)
  | _, [], _, _, hi => absurd hi (Nat.not_lt_zero _)
  | _, n :: ns, 0, .cons a b, _ => by obtain ⟨t, rfl⟩ := a.isInt; exact ⟨n, t, rfl⟩
  | _, n :: ns, i + 1, .cons a b, hi => by simpa using rd_ints (i := i) b (by simpa using hi)
theorem deep_facts (env : Env) : (callerA.deeper env).depth < 400 ∧ (callerA.deeper env).handled = none ∧ (callerA.deeper env).frames = some [env] ∧ (callerA.deeper env).units + 64 < cLine :=
  ⟨by show 302 < 400; decide, rfl, rfl, by show 7 + 64 < cLine; decide⟩
theorem Sp.ft {K : Wk} {s s' : Shared} {t : Nat} (k : Sp K { s with toks := t } s') : Sp K s s' := ⟨k.keep⟩
abbrev mkK (w : World) (mg mb : Str → Option Value) (s : Shared) (bm : Addr) (ob : Obj) (P : Addr) : Wk := ⟨w, mg, mb, s.heap, bm, ob, P, s.heap.objs.size, s.os⟩
theorem unpackItems_n {prog : Program} {w : World} {A : Around} {E : Value → Shared → Prop} {s : Shared} {t : Addr} {items : Array Value} {n : Nat} {Q : List Value → Shared → Prop} (hh : A.handled = none) (ht : IsTup s.heap t items) (hn : n = items.size)
    (hQ : ∀ h', Heap.ExtBut s.heap.objs.size s.heap h' → Q items.toList { s with heap := h' }) : wpAny (model prog w) A (unpackItems (.ref t) n none) Q E s := by
  subst hn; exact PyProof.Rows.unpackItems_tuple hh ht hQ
section
variable {prog : Program} {w : World} {s : Shared} {mg mb : Str → Option Value} {E : Value → Shared → Prop} {Q : Value → Shared → Prop}
theorem law_spec {P bm : Addr} {ob : Obj} {v : Value} {ns : List Int} (G : Gd w mg mb s.heap) (B : Based s.heap s.heap 65 P #[]) (Mb : BMod s.heap mainGlobals mg bm ob) (hg : AllBare s.gens)
    (hr : Rd Every s.heap v (.list (ns.map .int))) (hn : ns.length ≤ 1000) (h : ∀ s', OldK s.heap s'.heap → s'.os = s.os → AllBare s'.gens → Q (.bool true) s') :
    wpC (model prog w) callerA (call (.ref 114) [v]) Q E s := by
  have M := G.nm
  refine enterC G rfl rfl (by decide) (BindsTo.of_eq rfl) (locs rfl) ?_
  intro h₁ F
  obtain ⟨m₀, S₀, hv⟩ : ∃ m₀, LS (mkK w mg mb s bm ob P) m₀ { s with heap := h₁ } ∧ m₀ "script" = some v := ⟨_, ⟨⟨s.heap, #[], B, G, Mb, F⟩, hg, rfl, Heap.get?_none_of_le (Nat.le_refl _)⟩, rfl⟩
  have hr₁ : Rd Every h₁ v (.list (ns.map .int)) := hr.lq (.of_keep F.keep)
  have hfin : ∀ m s', LS (mkK w mg mb s bm ob P) m s' → Q (.bool true) s' := fun m s' S => by
    obtain ⟨hb, ps, B', _, _, F'⟩ := S.ex
    exact h s' (B'.finish F') S.os S.gens
  refine wpC_execs_cons ?_
  refine wpC_of ?_
  refine wpAny_Assign_Name ?_
  refine Tuple_ ?_
  refine wpAny_items_cons ?_
  refine wpAny_Constant_str ?_
  refine wpAny_items_cons ?_
  refine wpAny_Constant_str ?_
  refine wpAny_items_cons ?_
  refine wpAny_Constant_str ?_
  refine wpAny_items_nil ?_
  refine newTupleL (K := mkK w mg mb s bm ob P) (S₀.tok _) (.cons (.str _ _) (.cons (.str _ _) (.cons (.str _ _) .nil))) fun vf s₁ S₁ k₀ rf => ?_
  refine stM (K := mkK w mg mb s bm ob P) S₁ fun m₂ s₂ hm₂ hn₂ S₂ k₂ => ?_
  have rf₂ := rf.lq (S₁.lq k₂)
  have e_script₂ := (hn₂ "script" (by decide +kernel)).trans hv
  refine wpC_execs_cons ?_
  refine wpC_of ?_
  refine wpAny_Assign_Name ?_
  refine wpAny_Constant_str ?_
  refine stM (K := mkK w mg mb s bm ob P) (S₂.tok _) fun m₃ s₃ hm₃ hn₃ S₃ k₃ => ?_
  have rf₃ := rf₂.lq ((S₂.tok _).lq k₃)
  refine wpC_execs_cons ?_
  refine wpC_of ?_
  refine wpAny_Assign_Name ?_
  refine List_ ?_
  refine wpAny_items_cons ?_
  refine Call_ ?_
  refine ldGl (K := mkK w mg mb s bm ob P) S₃ M.lpart ?_
  refine callDef (mg := mg) (mb := mb) rfl ?_
  refine args_cons ?_
  refine wpAny_Constant_int ?_
  refine args_nil ?_
  refine ⟨(S₃.tok _).gd, ?_⟩
  refine partL (K := mkK w mg mb s bm ob P) (S₃.tok _) (Nat.lt_trans (deep_facts _).1 (by decide)) fun vp s₄ S₄ k₄ rp => ?_
  refine wpAny_items_nil ?_
  refine newListL (K := mkK w mg mb s bm ob P) S₄ (.cons rp .nil) fun vo s₅ S₅ k₅ ro => ?_
  refine stM (K := mkK w mg mb s bm ob P) S₅ fun m₆ s₆ hm₆ hn₆ S₆ k₆ => ?_
  have ro₆ := ro.lq (S₅.lq k₆)
  have rf₆ := ((rf₃.lq ((S₃.tok _).lq k₄)).lq (S₄.lq k₅)).lq (S₅.lq k₆)
  refine wpC_execs_cons ?_
  refine wpC_of ?_
  refine wpAny_Assign_Name ?_
  refine List_ ?_
  refine wpAny_items_cons ?_
  refine Call_ ?_
  refine ldGl (K := mkK w mg mb s bm ob P) S₆ M.lpart ?_
  refine callDef (mg := mg) (mb := mb) rfl ?_
  refine args_cons ?_
  refine wpAny_Constant_int ?_
  refine args_nil ?_
  refine ⟨(S₆.tok _).gd, ?_⟩
  refine partL (K := mkK w mg mb s bm ob P) (S₆.tok _) (Nat.lt_trans (deep_facts _).1 (by decide)) fun vp s₇ S₇ k₇ rp => ?_
  refine wpAny_items_nil ?_
  refine newListL (K := mkK w mg mb s bm ob P) S₇ (.cons rp .nil) fun vn s₈ S₈ k₈ rn => ?_
  refine stM (K := mkK w mg mb s bm ob P) S₈ fun m₉ s₉ hm₉ hn₉ S₉ k₉ => ?_
  have rn₉ := rn.lq (S₈.lq k₉)
  have ro₉ := ((ro₆.lq ((S₆.tok _).lq k₇)).lq (S₇.lq k₈)).lq (S₈.lq k₉)
  have rf₉ := ((rf₆.lq ((S₆.tok _).lq k₇)).lq (S₇.lq k₈)).lq (S₈.lq k₉)
  refine wpC_execs_cons ?_
  refine wpC_of ?_
  refine wpAny_Assign_Name ?_
  refine wpAny_Constant_bool ?_
  refine stM (K := mkK w mg mb s bm ob P) S₉ fun m s₁ hm hn₁ S k₁ => ?_
  have rf := rf₉.lq (S₉.lq k₁)
  have ro := ro₉.lq (S₉.lq k₁)
  have rn := rn₉.lq (S₉.lq k₁)
  have hr₁ : Rd Every s₁.heap v (.list (ns.map .int)) := ((((((((((hr₁.lq ((S₀.tok _).lq k₀)).lq (S₁.lq k₂)).lq ((S₂.tok _).lq k₃)).lq ((S₃.tok _).lq k₄)).lq (S₄.lq k₅)).lq (S₅.lq k₆)).lq ((S₆.tok _).lq k₇)).lq (S₇.lq k₈)).lq (S₈.lq k₉)).lq (S₉.lq k₁))
  have e_script := (hn₁ "script" (by decide +kernel)).trans ((hn₉ "script" (by decide +kernel)).trans ((hn₆ "script" (by decide +kernel)).trans ((hn₃ "script" (by decide +kernel)).trans e_script₂)))
  have e_old := (hn₁ "old" (by decide +kernel)).trans ((hn₉ "old" (by decide +kernel)).trans hm₆)
  have e_new := (hn₁ "new" (by decide +kernel)).trans hm₉
  have e_kind := (hn₁ "kind" (by decide +kernel)).trans ((hn₉ "kind" (by decide +kernel)).trans ((hn₆ "kind" (by decide +kernel)).trans hm₃))
  have e_facts := (hn₁ "facts" (by decide +kernel)).trans ((hn₉ "facts" (by decide +kernel)).trans ((hn₆ "facts" (by decide +kernel)).trans ((hn₃ "facts" (by decide +kernel)).trans hm₂)))
  clear F rf₂ rf₃ rf₆ rf₉ ro₆ ro₉ rn₉ e_script₂
  clear k₁ k₉ k₈ k₇ k₆ k₅ k₄ k₃ k₂ k₀ S₉ S₈ S₇ S₆ S₅ S₄ S₃ S₂ S₁ S₀ hv hn₁ hn₉ hn₆ hn₃ hn₂ hm₂ hm₃ hm₆ hm₉
  refine wpC_execs_cons ?_
  refine wpC_For ?_
  refine wpAny_BinOp ?_
  refine List_ ?_
  refine wpAny_items_cons ?_
  refine Call_ ?_
  refine ldBl (K := mkK w mg mb s bm ob P) S M.glen M.blen ?_
  refine PyProof.Rows.callWith_builtin1 ?_
  refine args_cons ?_
  refine ldL (K := mkK w mg mb s bm ob P) S e_script ?_
  refine args_nil ?_
  obtain ⟨va, rfl⟩ := hr₁.isRefL
  obtain ⟨vs, hl, ra, _⟩ := hr₁.listOf
  have hvl := ra.length
  rw [List.length_map] at hvl
  refine PyProof.Rows.len_list hl (by simp; omega) ?_
  refine wpAny_items_nil ?_
  refine newListL (K := mkK w mg mb s bm ob P) (S.tok _) (.cons (.int _ _) .nil) fun vl s₂ S₂ k₂ rl => ?_
  have k₂ := k₂.ft
  obtain ⟨hb, ps, B', G', Mb', F'⟩ := id S₂.ex
  refine cutL_to (i := 10) (ok := Every) F' ?_
  refine ldL (K := mkK w mg mb s bm ob P) S₂ e_script ?_
  refine ⟨_, hr₁.lq (S.lq k₂), by rw [List.length_map]; omega, F', fun c s₃ q₃ r₃ => ?_⟩
  have S₃ := S₂.qt q₃.toQt
  have k₃ : Sp (mkK w mg mb s bm ob P) s₂ s₃ := .of q₃.keep
  refine addListL (K := mkK w mg mb s bm ob P) S₃ (rl.lq (S₂.lq k₃)) r₃.all (by simp; omega) fun cl s₄ S₄ k₄ r₄ => ?_
  have k24 : Sp (mkK w mg mb s bm ob P) s₁ s₄ := k₂.trans (k₃.trans k₄)
  clear F' G' Mb' B' hl ra
  obtain ⟨la, rfl⟩ := r₄.isRefL
  obtain ⟨items, hl, ra, _⟩ := r₄.listOf
  have hil : items.length ≤ 11 := by
    rw [ra.length]
    simp
    omega
  refine wpAny_pyIter_list hl ?_
  have hlast : ∀ i, i < items.length → ∃ n t, items[i]? = some (.int n t) := fun i hi => by
    have e : [PyData.int (vs.toArray.size : Int)] ++ List.take 10 (List.map PyData.int ns) = (((vs.toArray.size : Int) :: ns.take 10)).map PyData.int := by simp [List.map_take]
    have hle := ra.length
    rw [e] at ra hle
    exact rd_ints ra (by rw [List.length_map] at hle; omega)
  have X0 : LI0 (mkK w mg mb s bm ob P) s₄.heap.objs.size la := by
    obtain ⟨hb, ps, B', G', Mb', F'⟩ := id S₄.ex
    have hlt : @LT.lt Nat instLTNat s.heap.objs.size s₄.heap.objs.size := F'.ns.lt
    obtain ⟨lo, ho, hlc, _, hld⟩ := id hl
    refine ⟨Heap.get?_none_of_le (Nat.le_of_lt hlt), addr_ne (.inr hlt), fun e => ?_, fun e => ?_⟩
    · obtain ⟨oL, es, ep, hL, hLd, _⟩ := F'.ns
      rw [e, hL] at ho; cases ho
      rw [hLd] at hld; cases hld
    · rw [e, (B'.tabAt F').2] at ho; cases ho; cases hlc
  have hh := (deep_facts (envOf "law" default 0 0 .none)).2.1
  have e5 : txt [partAt 5] = "60" := by decide +kernel
  have e4 : txt [partAt 4] = "" := by decide +kernel
  have k' : ∀ b o, s₄.heap.get? b = some o → (s₄.heap.push { cls := .type "list_iterator", data := .fields #[.ref la, .int 0 0] }).get? b = some o := fun b o e => Heap.get?_push_of_some _ e
  have X : LI (mkK w mg mb s bm ob P) s₄.heap.objs.size la items 0 1 "SunOS" [partAt 5] [partAt 4] m { s₄ with heap := s₄.heap.push { cls := .type "list_iterator", data := .fields #[.ref la, .int 0 0] } } := by
    have l : Lq s₁.heap (s₄.heap.push { cls := .type "list_iterator", data := .fields #[.ref la, .int 0 0] }) := (S.lq k24).trans (.of_keep k')
    refine ⟨S₄.keeps k' rfl rfl, ⟨vf, e_facts, (rf.lq l).to (by rw [e5, e4])⟩, ⟨_, e_kind⟩, ⟨vo, e_old, ro.lq l⟩, ⟨vn, e_new, rn.lq l⟩, hm, ⟨_, Heap.get?_push_size _ rfl, rfl, rfl⟩, ?_, by decide, lst_part (partAt_mem 5), lst_part (partAt_mem 4)⟩
    obtain ⟨o, e, r⟩ := hl
    exact ⟨o, k' _ _ e, r⟩
  clear rf ro rn e_old e_new e_kind e_facts e_script hm ra hl r₄ k24 k₄ k₃ S₃ r₃ q₃ k₂ rl S₂ S k' hvl
  revert X X0
  generalize (s₄.heap.push { cls := .type "list_iterator", data := .fields #[.ref la, .int 0 0] }) = h₅
  generalize s₄.heap.objs.size = it
  intro X0 X
  refine codeC_forLoop (I := fun n s' => ∃ i m kind old new, LI (mkK w mg mb s bm ob P) it la items i (i + 1) kind old new m s' ∧ i ≤ items.length ∧ n = items.length - i) ?_ _ ⟨0, m, "SunOS", [partAt 5], [partAt 4], X, Nat.zero_le _, rfl⟩
  clear X
  rintro n s₅ ⟨i, m, kind, old, new, X, hi, rfl⟩
  by_cases he : i < items.length
  · obtain ⟨nv, tv, hnv⟩ := hlast i he
    refine wpAny_pyNext_list_item X.itr X.src (by simpa using hnv) ?_
    intro h₂ hi₂ hs₂
    have X₁ := X.next X0 hi₂ hs₂
    clear X
    refine wpAny_assign_Name ?_
    refine stM (K := mkK w mg mb s bm ob P) X₁.S fun m₂ s₂ hm₂ hn₂ S₂ k₂ => ?_
    have X₂ := X₁.other X0 S₂ k₂ fun y hy => hn₂ y (by rintro rfl; revert hy; decide +kernel)
    clear X₁ hn₂
    have hne : ∀ {x : Str}, x ∉ (["facts", "kind", "old", "new", "ok"] : List Str) → ∀ y ∈ (["facts", "kind", "old", "new", "ok"] : List Str), y ≠ x := fun hx y hy e => hx (e ▸ hy)
    refine wpC_execs_cons ?_
    refine wpC_of ?_
    refine wpAny_Assign_Name ?_
    refine Call_ ?_
    refine ldGl (K := mkK w mg mb s bm ob P) X₂.S M.lpart ?_
    refine callDef (mg := mg) (mb := mb) rfl ?_
    refine args_cons ?_
    refine wpAny_BinOp ?_
    refine ldL (K := mkK w mg mb s bm ob P) X₂.S hm₂ ?_
    refine wpAny_Constant_int ?_
    refine PyProof.Rows.floordiv_int (by decide) ?_
    refine args_nil ?_
    refine ⟨(X₂.S.tok _).gd, ?_⟩
    refine partL (K := mkK w mg mb s bm ob P) (X₂.S.tok _) (Nat.lt_trans (deep_facts _).1 (by decide)) fun vp s₃ S₃ k₃ rp => ?_
    refine stM (K := mkK w mg mb s bm ob P) S₃ fun m₄ s₄ hm₄ hn₄ S₄ k₄ => ?_
    have X₄ := X₂.other X0 S₄ ⟨(k₃.trans k₄).keep⟩ fun y hy => hn₄ y (hne (by decide +kernel) y hy)
    have rp₄ := rp.lq (S₃.lq k₄)
    have en : m₄ "n" = some (.int nv tv) := (hn₄ "n" (by decide +kernel)).trans hm₂
    have hq := partAt_mem (nv.fdiv 5)
    clear X₂ hn₄ S₄ k₄ k₃ S₃ rp hm₂
    generalize partAt (nv.fdiv 5) = q at hq rp₄
    have Sx := X₄.S
    obtain ⟨vf, ef, rf⟩ := X₄.facts
    obtain ⟨uk, ek⟩ := X₄.kv
    obtain ⟨vo, eo, ro⟩ := X₄.ov
    obtain ⟨vn, ew, rn⟩ := X₄.nv
    have ho12 := X₄.ho.mono (n' := 12) (by omega)
    have hn12 := X₄.hn.mono (n' := 12) (by omega)
    refine wpC_execs_cons ?_
    refine wpC_mono (Q := fun f s' => f = .next ∧ ∃ m kind old new, LI (mkK w mg mb s bm ob P) it la items (i + 1) (i + 2) kind old new m s') (E := fun _ _ => False) ?_ ?_ (fun _ _ e => e)
    · refine wpC_If ?_
      refine wpAny_isTrue_Compare1 ?_
      refine wpAny_BinOp ?_
      refine ldL (K := mkK w mg mb s bm ob P) Sx en ?_
      refine wpAny_Constant_int ?_
      refine PyProof.Rows.mod_int' (by decide) ?_
      refine wpAny_Constant_int ?_
      refine PyProof.Rows.eq_int ?_
      refine wpAny_truthy_bool ?_
      cases (nv.fmod 5 == 0) with
      | true =>
        simp only [if_true]
        obtain ⟨p, r, rfl⟩ := List.exists_cons_of_ne_nil X₄.ho.ne
        refine wpC_execs_cons ?_
        refine wpC_Assign_Name ?_
        refine CallC ?_
        refine ldGl (K := mkK w mg mb s bm ob P) (Sx.tok _) M.sa ?_
        refine callDefC (mg := mg) (mb := mb) rfl ?_
        refine args_cons ?_
        refine PyProof.Rows.Subscript_ ?_
        refine ldL (K := mkK w mg mb s bm ob P) (Sx.tok _) ef ?_
        refine wpAny_Constant_int ?_
        refine itemT (i := 0) rf (by decide) rfl fun z rz => ?_
        obtain ⟨t0, rfl⟩ := rz.isStr
        refine args_cons ?_
        refine PyProof.Rows.Subscript_ ?_
        refine ldL (K := mkK w mg mb s bm ob P) (Sx.tok _) ef ?_
        refine wpAny_Constant_int ?_
        refine itemT (i := 1) rf (by decide) rfl fun z rz => ?_
        obtain ⟨t1, rfl⟩ := rz.isStr
        refine args_cons ?_
        refine PyProof.Rows.Subscript_ ?_
        refine ldL (K := mkK w mg mb s bm ob P) (Sx.tok _) ef ?_
        refine wpAny_Constant_int ?_
        refine itemT (i := 2) rf (by decide) rfl fun z rz => ?_
        obtain ⟨t2, rfl⟩ := rz.isStr
        refine args_nil ?_
        refine ⟨(Sx.tok _).gd, ?_⟩
        refine saL (K := mkK w mg mb s bm ob P) (Sx.tok _) (deep_facts _).2.2.1 rfl (Nat.lt_trans (deep_facts _).1 (by decide)) (deep_facts _).2.1 ho12 fun z s₅ S₅ k₅ rz => ?_
        refine stM (K := mkK w mg mb s bm ob P) S₅ fun m₆ s₆ hm₆ hn₆ S₆ k₆ => ?_
        have k46 : Sp (mkK w mg mb s bm ob P) s₄ s₆ := ⟨(k₅.trans k₆).keep⟩
        have rf₆ := rz.lq (S₅.lq k₆)
        have ro₆ := ro.lq (Sx.lq k46)
        refine wpC_execs_cons ?_
        refine wpC_of ?_
        refine PyProof.Rows.Assign_Tuple ?_
        refine Call_ ?_
        refine ldGl (K := mkK w mg mb s bm ob P) S₆ M.lalias ?_
        refine callDef (mg := mg) (mb := mb) rfl ?_
        refine args_cons ?_
        refine ldL (K := mkK w mg mb s bm ob P) S₆ ((hn₆ "kind" (by decide +kernel)).trans ek) ?_
        refine args_cons ?_
        refine ldL (K := mkK w mg mb s bm ob P) S₆ ((hn₆ "old" (by decide +kernel)).trans eo) ?_
        refine args_nil ?_
        refine ⟨S₆.gd, ?_⟩
        refine aliasL (K := mkK w mg mb s bm ob P) S₆ (deep_facts _).1 ro₆ ho12 fun z s₇ S₇ k₇ rz => ?_
        obtain ⟨za, rfl⟩ := rz.isRefT
        obtain ⟨zs, ht, ra, _⟩ := rz.tupleOf
        obtain ⟨z1, z2, rfl, r1, r2⟩ : ∃ z1 z2, zs = [z1, z2] ∧ Rd Every s₇.heap z1 (.str (winK (midP kind p r).1)) ∧ Rd Every s₇.heap z2 (.list ((midP kind p r).2.map Part.d)) := by
          cases ra with
          | cons a b => cases b with
            | cons c d => cases d; exact ⟨_, _, rfl, a, c⟩
        obtain ⟨tz, rfl⟩ := r1.isStr
        refine PyProof.Rows.assign_Tuple_tuple (deep_facts _).2.1 ht rfl rfl fun h₈ hx₈ => ?_
        have kx₈ : ∀ b o, s₇.heap.get? b = some o → h₈.get? b = some o := fun b o e => hx₈ b o (Nat.ne_of_lt (Heap.lt_size e)) e
        have S₈ : LS (mkK w mg mb s bm ob P) m₆ { s₇ with heap := h₈ } := S₇.keeps kx₈ rfl rfl
        have k₈ : Sp (mkK w mg mb s bm ob P) s₇ { s₇ with heap := h₈ } := .of kx₈
        refine assignInOrder_cons ?_
        refine PyProof.Rows.assign_Name ?_
        refine stM (K := mkK w mg mb s bm ob P) S₈ fun m₉ s₉ hm₉ hn₉ S₉ k₉ => ?_
        refine assignInOrder_cons ?_
        refine PyProof.Rows.assign_Name ?_
        refine stM (K := mkK w mg mb s bm ob P) S₉ fun m₁ s₁ hm₁ hn₁ S₁ k₁ => ?_
        refine assignInOrder_nil ?_
        refine wpC_of ?_
        refine wpAny_execs_nil ?_
        have l := ((S₆.lq k₇).trans (S₇.lq k₈)).trans ((S₈.lq k₉).trans (S₉.lq k₁))
        refine ⟨rfl, m₁, _, _, _, X₄.fin X0 S₁ (k46.trans (k₇.trans (k₈.trans (k₉.trans k₁)))) ⟨_, ?_, rf₆.lq l⟩ ⟨tz, ?_⟩ ⟨z2, hm₁, ((r2.lq (S₇.lq k₈)).lq (S₈.lq k₉)).lq (S₉.lq k₁)⟩ ⟨vn, ?_, (rn.lq (Sx.lq k46)).lq l⟩ ?_ (mid_kind X₄.hk) (mid_lst X₄.ho |>.mono (by omega)) (X₄.hn.mono (by omega))⟩
        · exact (hn₁ "facts" (by decide +kernel)).trans ((hn₉ "facts" (by decide +kernel)).trans hm₆)
        · exact (hn₁ "kind" (by decide +kernel)).trans hm₉
        · exact (hn₁ "new" (by decide +kernel)).trans ((hn₉ "new" (by decide +kernel)).trans ((hn₆ "new" (by decide +kernel)).trans ew))
        · exact (hn₁ "ok" (by decide +kernel)).trans ((hn₉ "ok" (by decide +kernel)).trans ((hn₆ "ok" (by decide +kernel)).trans X₄.okv))
      | false =>
        simp only [Bool.false_eq_true, if_false]
        refine wpC_execs_cons ?_
        refine wpC_If ?_
        refine wpAny_isTrue_Compare1 ?_
        refine wpAny_BinOp ?_
        refine ldL (K := mkK w mg mb s bm ob P) (Sx.tok _) en ?_
        refine wpAny_Constant_int ?_
        refine PyProof.Rows.mod_int' (by decide) ?_
        refine wpAny_Constant_int ?_
        refine PyProof.Rows.eq_int ?_
        refine wpAny_truthy_bool ?_
        cases (nv.fmod 5 == 1) with
        | true =>
          simp only [if_true]
          refine wpC_execs_cons ?_
          refine wpC_Assign_Name ?_
          refine TupleC ?_
          refine items_consC ?_
          refine PyProof.Rows.Subscript_ ?_
          refine ldL (K := mkK w mg mb s bm ob P) (Sx.tok _) ef ?_
          refine wpAny_Constant_int ?_
          refine itemT (i := 0) rf (by decide) rfl fun z rz => ?_
          obtain ⟨t0, rfl⟩ := rz.isStr
          refine items_consC ?_
          refine PyProof.Rows.Subscript_ ?_
          refine ldL (K := mkK w mg mb s bm ob P) (Sx.tok _) ef ?_
          refine wpAny_Constant_int ?_
          refine itemT (i := 1) rf (by decide) rfl fun z rz => ?_
          obtain ⟨t1, rfl⟩ := rz.isStr
          refine items_lastC ?_
          refine CallC ?_
          refine ldGl (K := mkK w mg mb s bm ob P) (Sx.tok _) M.nv ?_
          refine callDefC (mg := mg) (mb := mb) rfl ?_
          refine args_cons ?_
          refine PyProof.Rows.Subscript_ ?_
          refine ldL (K := mkK w mg mb s bm ob P) (Sx.tok _) ef ?_
          refine wpAny_Constant_int ?_
          refine itemT (i := 2) rf (by decide) rfl fun z rz => ?_
          obtain ⟨t2, rfl⟩ := rz.isStr
          refine args_cons ?_
          refine PyProof.Rows.Subscript_ ?_
          refine ldL (K := mkK w mg mb s bm ob P) (Sx.tok _) hm₄ ?_
          refine wpAny_Constant_int ?_
          refine itemT (i := 0) rp₄ (by decide) rfl fun z rz => ?_
          obtain ⟨t3, rfl⟩ := rz.isStr
          refine args_nil ?_
          refine ⟨(Sx.tok _).gd, ?_⟩
          refine nvLaw (K := mkK w mg mb s bm ob P) (Sx.tok _) (deep_facts _).2.2.1 rfl (Nat.lt_trans (deep_facts _).1 (by decide)) (deep_facts _).2.1 hn12 hq fun tn s₅ S₅ k₅ => ?_
          refine newTupleL (K := mkK w mg mb s bm ob P) S₅ (.cons (.str _ _) (.cons (.str _ _) (.cons (.str _ _) .nil))) fun z s₆ S₆ k₆ rz => ?_
          refine stM (K := mkK w mg mb s bm ob P) S₆ fun m₇ s₇ hm₇ hn₇ S₇ k₇ => ?_
          have k47 : Sp (mkK w mg mb s bm ob P) s₄ s₇ := ⟨(k₅.trans (k₆.trans k₇)).keep⟩
          have l47 := Sx.lq k47
          have rz₇ := rz.lq (S₆.lq k₇)
          have rn₇ := rn.lq l47
          have rp₇ := rp₄.lq l47
          have ew₇ := (hn₇ "new" (by decide +kernel)).trans ew
          have ep₇ := (hn₇ "part" (by decide +kernel)).trans hm₄
          have hadd : Lst (addP new q) (i + 2) := add_lst X₄.hn hq
          refine wpC_execs_cons ?_
          refine wpC_of ?_
          refine wpAny_Assign_Name ?_
          refine Call_ ?_
          refine ldGl (K := mkK w mg mb s bm ob P) S₇ M.lnorm ?_
          refine callDef (mg := mg) (mb := mb) rfl ?_
          refine args_cons ?_
          refine wpAny_IfExp ?_
          refine wpAny_isTrue_value ?_
          refine PyProof.Rows.Subscript_ ?_
          refine ldL (K := mkK w mg mb s bm ob P) (S₇) ep₇ ?_
          refine wpAny_Constant_int ?_
          refine itemT (i := 0) rp₇ (by decide) rfl fun z rz => ?_
          obtain ⟨t4, rfl⟩ := rz.isStr
          have hql := (partF hq).len
          refine PySem.P.truthy_str (by omega) ?_
          by_cases h0 : q.text.length = 0
          · have e0 : ((q.text.length : Int) != 0) = false := by rw [h0]; rfl
            have ea : addP new q = new := by unfold addP; rw [if_pos (by simp [h0])]
            rw [e0]
            simp only [Bool.false_eq_true, if_false]
            refine ldL (K := mkK w mg mb s bm ob P) (S₇.tok _) ew₇ ?_
            refine args_nil ?_
            refine ⟨(S₇.tok _).gd, ?_⟩
            refine lnormL (K := mkK w mg mb s bm ob P) (S₇.tok _) (deep_facts _).1 (deep_facts _).2.1 (by rw [ea]; exact rn₇) (hadd.mono (by omega)) fun z s₈ S₈ k₈ r₈ => ?_
            refine stM (K := mkK w mg mb s bm ob P) S₈ fun m₉ s₉ hm₉ hn₉ S₉ k₉ => ?_
            refine wpC_of ?_
            refine wpAny_execs_nil ?_
            refine wpC_of ?_
            refine wpAny_execs_nil ?_
            have k79 : Sp (mkK w mg mb s bm ob P) s₇ s₉ := ⟨(k₈.trans k₉).keep⟩
            have l79 := S₇.lq k79
            refine ⟨rfl, m₉, kind, old, normP (addP new q), X₄.fin X0 S₉ (k47.trans k79) ⟨_, (hn₉ "facts" (by decide +kernel)).trans hm₇, rz₇.lq l79⟩ ⟨uk, ?_⟩ ⟨vo, ?_, (ro.lq l47).lq l79⟩ ⟨_, hm₉, r₈.lq (S₈.lq k₉)⟩ ?_ X₄.hk (X₄.ho.mono (by omega)) (norm_lst2 hadd)⟩
            · exact (hn₉ "kind" (by decide +kernel)).trans ((hn₇ "kind" (by decide +kernel)).trans ek)
            · exact (hn₉ "old" (by decide +kernel)).trans ((hn₇ "old" (by decide +kernel)).trans eo)
            · exact (hn₉ "ok" (by decide +kernel)).trans ((hn₇ "ok" (by decide +kernel)).trans X₄.okv)
          · have e0 : ((q.text.length : Int) != 0) = true := by simpa using h0
            have ea : addP new q = new ++ [q] := by unfold addP; rw [if_neg (by simp [h0])]
            rw [e0]
            simp only [if_true]
            refine wpAny_BinOp ?_
            refine ldL (K := mkK w mg mb s bm ob P) (S₇.tok _) ew₇ ?_
            refine List_ ?_
            refine wpAny_items_cons ?_
            refine ldL (K := mkK w mg mb s bm ob P) (S₇.tok _) ep₇ ?_
            refine wpAny_items_nil ?_
            refine newListL (K := mkK w mg mb s bm ob P) (S₇.tok _) (.cons rp₇ .nil) fun vq sa Sa ka rq => ?_
            have la := (S₇.tok _).lq ka
            refine addListL (K := mkK w mg mb s bm ob P) Sa (rn₇.lq la) rq (by have := hn12.len; simp; omega) fun vc sb Sb kb rc => ?_
            have rc' : Rd Every sb.heap vc (.list ((addP new q).map Part.d)) := rc.to (by rw [ea, List.map_append]; rfl)
            refine args_nil ?_
            refine ⟨(Sb).gd, ?_⟩
            refine lnormL (K := mkK w mg mb s bm ob P) (Sb) (deep_facts _).1 (deep_facts _).2.1 rc' (hadd.mono (by omega)) fun z s₈ S₈ k₈ r₈ => ?_
            refine stM (K := mkK w mg mb s bm ob P) S₈ fun m₉ s₉ hm₉ hn₉ S₉ k₉ => ?_
            refine wpC_of ?_
            refine wpAny_execs_nil ?_
            refine wpC_of ?_
            refine wpAny_execs_nil ?_
            have k79 : Sp (mkK w mg mb s bm ob P) s₇ s₉ := ⟨(ka.trans (kb.trans (k₈.trans k₉))).keep⟩
            have l79 := S₇.lq k79
            refine ⟨rfl, m₉, kind, old, normP (addP new q), X₄.fin X0 S₉ (k47.trans k79) ⟨_, (hn₉ "facts" (by decide +kernel)).trans hm₇, rz₇.lq l79⟩ ⟨uk, ?_⟩ ⟨vo, ?_, (ro.lq l47).lq l79⟩ ⟨_, hm₉, r₈.lq (S₈.lq k₉)⟩ ?_ X₄.hk (X₄.ho.mono (by omega)) (norm_lst2 hadd)⟩
            · exact (hn₉ "kind" (by decide +kernel)).trans ((hn₇ "kind" (by decide +kernel)).trans ek)
            · exact (hn₉ "old" (by decide +kernel)).trans ((hn₇ "old" (by decide +kernel)).trans eo)
            · exact (hn₉ "ok" (by decide +kernel)).trans ((hn₇ "ok" (by decide +kernel)).trans X₄.okv)
        | false =>
          simp only [Bool.false_eq_true, if_false]
          refine wpC_execs_cons ?_
          refine wpC_If ?_
          refine wpAny_isTrue_Compare1 ?_
          refine wpAny_BinOp ?_
          refine ldL (K := mkK w mg mb s bm ob P) (Sx.tok _) en ?_
          refine wpAny_Constant_int ?_
          refine PyProof.Rows.mod_int' (by decide) ?_
          refine wpAny_Constant_int ?_
          refine PyProof.Rows.eq_int ?_
          refine wpAny_truthy_bool ?_
          cases (nv.fmod 5 == 2) with
          | true =>
            simp only [if_true]
            refine wpC_execs_cons ?_
            refine wpC_of ?_
            refine wpAny_Assign_Name ?_
            refine Tuple_ ?_
            refine wpAny_items_cons ?_
            refine PyProof.Rows.Subscript_ ?_
            refine ldL (K := mkK w mg mb s bm ob P) (Sx.tok _) ef ?_
            refine wpAny_Constant_int ?_
            refine itemT (i := 0) rf (by decide) rfl fun z rz => ?_
            obtain ⟨t0, rfl⟩ := rz.isStr
            refine wpAny_items_cons ?_
            refine PyProof.Rows.Subscript_ ?_
            refine ldL (K := mkK w mg mb s bm ob P) (Sx.tok _) ef ?_
            refine wpAny_Constant_int ?_
            refine itemT (i := 2) rf (by decide) rfl fun z rz => ?_
            obtain ⟨t1, rfl⟩ := rz.isStr
            refine wpAny_items_cons ?_
            refine PyProof.Rows.Subscript_ ?_
            refine ldL (K := mkK w mg mb s bm ob P) (Sx.tok _) ef ?_
            refine wpAny_Constant_int ?_
            refine itemT (i := 1) rf (by decide) rfl fun z rz => ?_
            obtain ⟨t2, rfl⟩ := rz.isStr
            refine wpAny_items_nil ?_
            refine newTupleL (K := mkK w mg mb s bm ob P) (Sx.tok _) (.cons (.str _ _) (.cons (.str _ _) (.cons (.str _ _) .nil))) fun z s₆ S₆ k₆ rz => ?_
            refine stM (K := mkK w mg mb s bm ob P) S₆ fun m₇ s₇ hm₇ hn₇ S₇ k₇ => ?_
            have k47 : Sp (mkK w mg mb s bm ob P) s₄ s₇ := ⟨(k₆.trans k₇).keep⟩
            have l47 := Sx.lq k47
            have rz₇ := rz.lq (S₆.lq k₇)
            have ew₇ := (hn₇ "new" (by decide +kernel)).trans ew
            have eo₇ := (hn₇ "old" (by decide +kernel)).trans eo
            refine wpC_execs_cons ?_
            refine wpC_of ?_
            refine PyProof.Rows.Assign_Tuple_swapped (names := ["old", "new"]) ?_
            refine Tuple_ ?_
            refine wpAny_items_cons ?_
            refine ldL (K := mkK w mg mb s bm ob P) S₇ ew₇ ?_
            refine wpAny_items_cons ?_
            refine ldL (K := mkK w mg mb s bm ob P) S₇ eo₇ ?_
            refine wpAny_items_nil ?_
            refine newTupleL (K := mkK w mg mb s bm ob P) S₇ (.cons (rn.lq l47) (.cons (ro.lq l47) .nil)) fun z2 s₈ S₈ k₈ r₈ => ?_
            obtain ⟨za, rfl⟩ := r₈.isRefT
            obtain ⟨zs, ht, ra, _⟩ := r₈.tupleOf
            obtain ⟨z3, z4, rfl, r3, r4⟩ : ∃ z1 z2, zs = [z1, z2] ∧ Rd Every s₈.heap z1 (.list (new.map Part.d)) ∧ Rd Every s₈.heap z2 (.list (old.map Part.d)) := by
              cases ra with
              | cons a b => cases b with
                | cons c d => cases d; exact ⟨_, _, rfl, a, c⟩
            refine unpackItems_n (deep_facts _).2.1 ht rfl fun h₈ hx₈ => ?_
            have kx₈ : ∀ b o, s₈.heap.get? b = some o → h₈.get? b = some o := fun b o e => hx₈ b o (Nat.ne_of_lt (Heap.lt_size e)) e
            have S₉ : LS (mkK w mg mb s bm ob P) m₇ { s₈ with heap := h₈ } := S₈.keeps kx₈ rfl rfl
            have k₉ : Sp (mkK w mg mb s bm ob P) s₈ { s₈ with heap := h₈ } := .of kx₈
            refine assignInOrder_cons ?_
            refine PyProof.Rows.bindName_ ?_
            refine stM (K := mkK w mg mb s bm ob P) S₉ fun ma sa hma hna Sa ka => ?_
            refine assignInOrder_cons ?_
            refine PyProof.Rows.bindName_ ?_
            refine stM (K := mkK w mg mb s bm ob P) Sa fun mb' sb hmb hnb Sb kb => ?_
            refine assignInOrder_nil ?_
            refine wpC_of ?_
            refine wpAny_execs_nil ?_
            refine wpC_of ?_
            refine wpAny_execs_nil ?_
            refine wpC_of ?_
            refine wpAny_execs_nil ?_
            have k7b : Sp (mkK w mg mb s bm ob P) s₇ sb := ⟨(k₈.trans (k₉.trans (ka.trans kb))).keep⟩
            have l8b := ((S₈.lq k₉).trans (S₉.lq ka)).trans (Sa.lq kb)
            refine ⟨rfl, mb', kind, new, old, X₄.fin X0 Sb (k47.trans k7b) ⟨z, ?_, rz₇.lq (S₇.lq k7b)⟩ ⟨uk, ?_⟩ ⟨z3, ?_, r3.lq l8b⟩ ⟨z4, ?_, r4.lq l8b⟩ ?_ X₄.hk (X₄.hn.mono (by omega)) (X₄.ho.mono (by omega))⟩
            · exact (hnb "facts" (by decide +kernel)).trans ((hna "facts" (by decide +kernel)).trans hm₇)
            · exact (hnb "kind" (by decide +kernel)).trans ((hna "kind" (by decide +kernel)).trans ((hn₇ "kind" (by decide +kernel)).trans ek))
            · exact hmb
            · exact (hnb "new" (by decide +kernel)).trans hma
            · exact (hnb "ok" (by decide +kernel)).trans ((hna "ok" (by decide +kernel)).trans ((hn₇ "ok" (by decide +kernel)).trans X₄.okv))
          | false =>
            simp only [Bool.false_eq_true, if_false]
            refine wpC_execs_cons ?_
            refine wpC_If ?_
            refine wpAny_isTrue_Compare1 ?_
            refine wpAny_BinOp ?_
            refine ldL (K := mkK w mg mb s bm ob P) (Sx.tok _) en ?_
            refine wpAny_Constant_int ?_
            refine PyProof.Rows.mod_int' (by decide) ?_
            refine wpAny_Constant_int ?_
            refine PyProof.Rows.eq_int ?_
            refine wpAny_truthy_bool ?_
            cases (nv.fmod 5 == 3) with
            | true =>
              simp only [if_true]
              refine wpC_execs_cons ?_
              refine wpC_of ?_
              refine wpAny_Assign_Name ?_
              refine PyProof.Rows.Subscript_ ?_
              refine Tuple_ ?_
              refine wpAny_items_cons ?_
              refine wpAny_Constant_str ?_
              refine wpAny_items_cons ?_
              refine wpAny_Constant_str ?_
              refine wpAny_items_cons ?_
              refine wpAny_Constant_str ?_
              refine wpAny_items_cons ?_
              refine wpAny_Constant_str ?_
              refine wpAny_items_nil ?_
              refine newTupleL (K := mkK w mg mb s bm ob P) (ds := (["SunOS", "win32", "Linux", "win16"] : List Str).map PyData.str) (Sx.tok _) (.cons (.str _ _) (.cons (.str _ _) (.cons (.str _ _) (.cons (.str _ _) .nil)))) fun z s₅ S₅ k₅ rz => ?_
              refine wpAny_BinOp ?_
              refine wpAny_BinOp ?_
              refine ldL (K := mkK w mg mb s bm ob P) S₅ en ?_
              refine wpAny_Constant_int ?_
              refine PyProof.Rows.floordiv_int (by decide) ?_
              refine wpAny_Constant_int ?_
              refine PyProof.Rows.mod_int' (by decide) ?_
              obtain ⟨kx, hkx, hki⟩ : ∃ kx, (["SunOS", "win32", "Linux", "win16"] : List Str)[((nv.fdiv 5).fmod 4).toNat]? = some kx ∧ kx ∈ kinds := by
                have h0 := Int.fmod_nonneg_of_pos (nv.fdiv 5) (b := 4) (by decide)
                have h4 := Int.fmod_lt_of_pos (nv.fdiv 5) (b := 4) (by decide)
                have : ∀ j, j < 4 → ∃ kx, (["SunOS", "win32", "Linux", "win16"] : List Str)[j]? = some kx ∧ kx ∈ kinds := by
                  intro j hj
                  match j, hj with
                  | 0, _ => exact ⟨_, rfl, by decide⟩
                  | 1, _ => exact ⟨_, rfl, by decide⟩
                  | 2, _ => exact ⟨_, rfl, by decide⟩
                  | 3, _ => exact ⟨_, rfl, by decide⟩
                exact this _ (by omega)
              obtain ⟨za, rfl⟩ := rz.isRefT
              obtain ⟨zs, ht, ra, _⟩ := rz.tupleOf
              have h0 := Int.fmod_nonneg_of_pos (nv.fdiv 5) (b := 4) (by decide)
              have h4 := Int.fmod_lt_of_pos (nv.fdiv 5) (b := 4) (by decide)
              have hzl : zs.length = 4 := ra.length
              obtain ⟨zk, hzk, rzk⟩ := ra.get (i := ((nv.fdiv 5).fmod 4).toNat) (d := .str kx) (by rw [List.getElem?_map, hkx]; rfl)
              obtain ⟨tk, rfl⟩ := rzk.isStr
              refine item_tupleT ht (by omega) (by omega) (seqIndex_pos h0 (by rw [hzl]; exact h4)) hzk ?_
              refine stM (K := mkK w mg mb s bm ob P) (S₅.tok _) fun m₇ s₇ hm₇ hn₇ S₇ k₇ => ?_
              have k47 : Sp (mkK w mg mb s bm ob P) s₄ s₇ := ⟨(k₅.trans ⟨k₇.keep⟩).keep⟩
              have l47 := Sx.lq k47
              have ef₇ := (hn₇ "facts" (by decide +kernel)).trans ef
              have rf₇ := rf.lq l47
              refine wpC_execs_cons ?_
              refine wpC_of ?_
              refine wpAny_Assign_Name ?_
              refine Tuple_ ?_
              refine wpAny_items_cons ?_
              refine ldL (K := mkK w mg mb s bm ob P) S₇ hm₇ ?_
              refine wpAny_items_cons ?_
              refine PyProof.Rows.Subscript_ ?_
              refine ldL (K := mkK w mg mb s bm ob P) (S₇) ef₇ ?_
              refine wpAny_Constant_int ?_
              refine itemT (i := 1) rf₇ (by decide) rfl fun z rz => ?_
              obtain ⟨t1, rfl⟩ := rz.isStr
              refine wpAny_items_cons ?_
              refine PyProof.Rows.Subscript_ ?_
              refine ldL (K := mkK w mg mb s bm ob P) (S₇.tok _) ef₇ ?_
              refine wpAny_Constant_int ?_
              refine itemT (i := 2) rf₇ (by decide) rfl fun z rz => ?_
              obtain ⟨t2, rfl⟩ := rz.isStr
              refine wpAny_items_nil ?_
              refine newTupleL (K := mkK w mg mb s bm ob P) (S₇.tok _) (.cons (.str _ _) (.cons (.str _ _) (.cons (.str _ _) .nil))) fun z s₈ S₈ k₈ r₈ => ?_
              refine stM (K := mkK w mg mb s bm ob P) S₈ fun m₉ s₉ hm₉ hn₉ S₉ k₉ => ?_
              refine wpC_of ?_
              refine wpAny_execs_nil ?_
              refine wpC_of ?_
              refine wpAny_execs_nil ?_
              refine wpC_of ?_
              refine wpAny_execs_nil ?_
              refine wpC_of ?_
              refine wpAny_execs_nil ?_
              have k79 : Sp (mkK w mg mb s bm ob P) s₇ s₉ := ⟨(k₈.trans k₉).keep⟩
              have l79 := S₇.lq k79
              refine ⟨rfl, m₉, kx, old, new, X₄.fin X0 S₉ (k47.trans k79) ⟨z, hm₉, r₈.lq (S₈.lq k₉)⟩ ⟨tk, ?_⟩ ⟨vo, ?_, (ro.lq l47).lq l79⟩ ⟨vn, ?_, (rn.lq l47).lq l79⟩ ?_ hki (X₄.ho.mono (by omega)) (X₄.hn.mono (by omega))⟩
              · exact (hn₉ "kind" (by decide +kernel)).trans hm₇
              · exact (hn₉ "old" (by decide +kernel)).trans ((hn₇ "old" (by decide +kernel)).trans eo)
              · exact (hn₉ "new" (by decide +kernel)).trans ((hn₇ "new" (by decide +kernel)).trans ew)
              · exact (hn₉ "ok" (by decide +kernel)).trans ((hn₇ "ok" (by decide +kernel)).trans X₄.okv)
            | false =>
              simp only [Bool.false_eq_true, if_false]
              refine wpC_execs_cons ?_
              refine wpC_of ?_
              refine wpAny_Assign_Name ?_
              refine wpAny_IfExp ?_
              refine wpAny_isTrue_value ?_
              refine PyProof.Rows.Subscript_ ?_
              refine ldL (K := mkK w mg mb s bm ob P) (Sx.tok _) ef ?_
              refine wpAny_Constant_int ?_
              refine itemT (i := 2) rf (by decide) rfl fun z rz => ?_
              obtain ⟨t2, rfl⟩ := rz.isStr
              have hsl := hn12.short
              have hql := (partF hq).len
              refine PySem.P.truthy_str (by omega) ?_
              have hput : Lst (putP new q) (i + 2) := put_lst X₄.hn hq
              have hvt : (if (txt new).length = 0 then q.text else txt new ++ "." ++ q.text) = txt (putP new q) := by
                unfold putP
                split
                · rw [txt_one]
                · rw [txt_snoc X₄.hn.ne]
              by_cases h0 : (txt new).length = 0
              · have e0 : (((txt new).length : Int) != 0) = false := by rw [h0]; rfl
                rw [e0]
                simp only [Bool.false_eq_true, if_false]
                refine List_ ?_
                refine wpAny_items_cons ?_
                refine ldL (K := mkK w mg mb s bm ob P) (Sx.tok _) hm₄ ?_
                refine wpAny_items_nil ?_
                refine newListL (K := mkK w mg mb s bm ob P) (Sx.tok _) (.cons rp₄ .nil) fun vc sb Sb kb rc => ?_
                have rc' : Rd Every sb.heap vc (.list ((putP new q).map Part.d)) := rc.to (by unfold putP; rw [if_pos h0]; rfl)
                refine stM (K := mkK w mg mb s bm ob P) Sb fun m₅ s₅ hm₅ hn₅ S₅ k₅ => ?_
                have k45 : Sp (mkK w mg mb s bm ob P) s₄ s₅ := ⟨(kb.trans k₅).keep⟩
                have l45 := Sx.lq k45
                have rc₅ := rc'.lq (Sb.lq k₅)
                have rf₅ := rf.lq l45
                have rp₅ := rp₄.lq l45
                have ef₅ := (hn₅ "facts" (by decide +kernel)).trans ef
                have ep₅ := (hn₅ "part" (by decide +kernel)).trans hm₄
                refine wpC_execs_cons ?_
                refine wpC_of ?_
                refine wpAny_Assign_Name ?_
                refine Tuple_ ?_
                refine wpAny_items_cons ?_
                refine PyProof.Rows.Subscript_ ?_
                refine ldL (K := mkK w mg mb s bm ob P) (S₅) ef₅ ?_
                refine wpAny_Constant_int ?_
                refine itemT (i := 0) rf₅ (by decide) rfl fun z rz => ?_
                obtain ⟨t0, rfl⟩ := rz.isStr
                refine wpAny_items_cons ?_
                refine PyProof.Rows.Subscript_ ?_
                refine ldL (K := mkK w mg mb s bm ob P) (S₅.tok _) ef₅ ?_
                refine wpAny_Constant_int ?_
                refine itemT (i := 1) rf₅ (by decide) rfl fun z rz => ?_
                obtain ⟨t1, rfl⟩ := rz.isStr
                refine wpAny_items_cons ?_
                refine wpAny_IfExp ?_
                refine wpAny_isTrue_value ?_
                refine PyProof.Rows.Subscript_ ?_
                refine ldL (K := mkK w mg mb s bm ob P) (S₅.tok _) ef₅ ?_
                refine wpAny_Constant_int ?_
                refine itemT (i := 2) rf₅ (by decide) rfl fun z rz => ?_
                obtain ⟨t3, rfl⟩ := rz.isStr
                refine PySem.P.truthy_str (by omega) ?_
                rw [e0]
                simp only [Bool.false_eq_true, if_false]
                refine PyProof.Rows.Subscript_ ?_
                refine ldL (K := mkK w mg mb s bm ob P) (S₅.tok _) ep₅ ?_
                refine wpAny_Constant_int ?_
                refine itemT (i := 0) rp₅ (by decide) rfl fun z rz => ?_
                obtain ⟨t4, rfl⟩ := rz.isStr
                refine wpAny_items_nil ?_
                rw [if_pos h0] at hvt
                rw [hvt]
                refine newTupleL (K := mkK w mg mb s bm ob P) (S₅.tok _) (.cons (.str _ _) (.cons (.str _ _) (.cons (.str _ _) .nil))) fun z s₈ S₈ k₈ r₈ => ?_
                refine stM (K := mkK w mg mb s bm ob P) S₈ fun m₉ s₉ hm₉ hn₉ S₉ k₉ => ?_
                refine wpC_of ?_
                refine wpAny_execs_nil ?_
                refine wpC_of ?_
                refine wpAny_execs_nil ?_
                refine wpC_of ?_
                refine wpAny_execs_nil ?_
                refine wpC_of ?_
                refine wpAny_execs_nil ?_
                have k59 : Sp (mkK w mg mb s bm ob P) s₅ s₉ := ⟨(k₈.trans k₉).keep⟩
                have l59 := S₅.lq k59
                refine ⟨rfl, m₉, kind, old, putP new q, X₄.fin X0 S₉ (k45.trans k59) ⟨z, hm₉, r₈.lq (S₈.lq k₉)⟩ ⟨uk, ?_⟩ ⟨vo, ?_, (ro.lq l45).lq l59⟩ ⟨_, (hn₉ "new" (by decide +kernel)).trans hm₅, rc₅.lq l59⟩ ?_ X₄.hk (X₄.ho.mono (by omega)) hput⟩
                · exact (hn₉ "kind" (by decide +kernel)).trans ((hn₅ "kind" (by decide +kernel)).trans ek)
                · exact (hn₉ "old" (by decide +kernel)).trans ((hn₅ "old" (by decide +kernel)).trans eo)
                · exact (hn₉ "ok" (by decide +kernel)).trans ((hn₅ "ok" (by decide +kernel)).trans X₄.okv)
              · have e0 : (((txt new).length : Int) != 0) = true := by simpa using h0
                rw [e0]
                simp only [if_true]
                refine wpAny_BinOp ?_
                refine ldL (K := mkK w mg mb s bm ob P) (Sx.tok _) ew ?_
                refine List_ ?_
                refine wpAny_items_cons ?_
                refine ldL (K := mkK w mg mb s bm ob P) (Sx.tok _) hm₄ ?_
                refine wpAny_items_nil ?_
                refine newListL (K := mkK w mg mb s bm ob P) (Sx.tok _) (.cons rp₄ .nil) fun vq sa Sa ka rq => ?_
                have la := (Sx.tok _).lq ka
                refine addListL (K := mkK w mg mb s bm ob P) Sa (rn.lq la) rq (by have := hn12.len; simp; omega) fun vc sb Sb kb rc => ?_
                have rc' : Rd Every sb.heap vc (.list ((putP new q).map Part.d)) := rc.to (by unfold putP; rw [if_neg h0, List.map_append]; rfl)
                refine stM (K := mkK w mg mb s bm ob P) Sb fun m₅ s₅ hm₅ hn₅ S₅ k₅ => ?_
                have k45 : Sp (mkK w mg mb s bm ob P) s₄ s₅ := ⟨((ka.trans kb).trans k₅).keep⟩
                have l45 := Sx.lq k45
                have rc₅ := rc'.lq (Sb.lq k₅)
                have rf₅ := rf.lq l45
                have rp₅ := rp₄.lq l45
                have ef₅ := (hn₅ "facts" (by decide +kernel)).trans ef
                have ep₅ := (hn₅ "part" (by decide +kernel)).trans hm₄
                refine wpC_execs_cons ?_
                refine wpC_of ?_
                refine wpAny_Assign_Name ?_
                refine Tuple_ ?_
                refine wpAny_items_cons ?_
                refine PyProof.Rows.Subscript_ ?_
                refine ldL (K := mkK w mg mb s bm ob P) (S₅) ef₅ ?_
                refine wpAny_Constant_int ?_
                refine itemT (i := 0) rf₅ (by decide) rfl fun z rz => ?_
                obtain ⟨t0, rfl⟩ := rz.isStr
                refine wpAny_items_cons ?_
                refine PyProof.Rows.Subscript_ ?_
                refine ldL (K := mkK w mg mb s bm ob P) (S₅.tok _) ef₅ ?_
                refine wpAny_Constant_int ?_
                refine itemT (i := 1) rf₅ (by decide) rfl fun z rz => ?_
                obtain ⟨t1, rfl⟩ := rz.isStr
                refine wpAny_items_cons ?_
                refine wpAny_IfExp ?_
                refine wpAny_isTrue_value ?_
                refine PyProof.Rows.Subscript_ ?_
                refine ldL (K := mkK w mg mb s bm ob P) (S₅.tok _) ef₅ ?_
                refine wpAny_Constant_int ?_
                refine itemT (i := 2) rf₅ (by decide) rfl fun z rz => ?_
                obtain ⟨t3, rfl⟩ := rz.isStr
                refine PySem.P.truthy_str (by omega) ?_
                rw [e0]
                simp only [if_true]
                refine wpAny_BinOp ?_
                refine wpAny_BinOp ?_
                refine PyProof.Rows.Subscript_ ?_
                refine ldL (K := mkK w mg mb s bm ob P) (S₅.tok _) ef₅ ?_
                refine wpAny_Constant_int ?_
                refine itemT (i := 2) rf₅ (by decide) rfl fun z rz => ?_
                obtain ⟨t4, rfl⟩ := rz.isStr
                refine wpAny_Constant_str ?_
                refine PyProof.Rows.add_str (fun ta ka => ?_) (by rw [sizeLine_eq]; show _ + 1 ≤ _; omega)
                refine PyProof.Rows.Subscript_ ?_
                refine ldL (K := mkK w mg mb s bm ob P) (S₅.tok _) ep₅ ?_
                refine wpAny_Constant_int ?_
                refine itemT (i := 0) rp₅ (by decide) rfl fun z rz => ?_
                obtain ⟨t5, rfl⟩ := rz.isStr
                refine PyProof.Rows.add_str (fun tb kb => ?_) (by rw [sizeLine_eq, Str.length_append]; show _ + 1 + _ ≤ _; omega)
                refine wpAny_items_nil ?_
                rw [if_neg h0] at hvt
                rw [hvt]
                refine newTupleL (K := mkK w mg mb s bm ob P) (S₅.tok _) (.cons (.str _ _) (.cons (.str _ _) (.cons (.str _ _) .nil))) fun z s₈ S₈ k₈ r₈ => ?_
                refine stM (K := mkK w mg mb s bm ob P) S₈ fun m₉ s₉ hm₉ hn₉ S₉ k₉ => ?_
                refine wpC_of ?_
                refine wpAny_execs_nil ?_
                refine wpC_of ?_
                refine wpAny_execs_nil ?_
                refine wpC_of ?_
                refine wpAny_execs_nil ?_
                refine wpC_of ?_
                refine wpAny_execs_nil ?_
                have k59 : Sp (mkK w mg mb s bm ob P) s₅ s₉ := ⟨(k₈.trans k₉).keep⟩
                have l59 := S₅.lq k59
                refine ⟨rfl, m₉, kind, old, putP new q, X₄.fin X0 S₉ (k45.trans k59) ⟨z, hm₉, r₈.lq (S₈.lq k₉)⟩ ⟨uk, ?_⟩ ⟨vo, ?_, (ro.lq l45).lq l59⟩ ⟨_, (hn₉ "new" (by decide +kernel)).trans hm₅, rc₅.lq l59⟩ ?_ X₄.hk (X₄.ho.mono (by omega)) hput⟩
                · exact (hn₉ "kind" (by decide +kernel)).trans ((hn₅ "kind" (by decide +kernel)).trans ek)
                · exact (hn₉ "old" (by decide +kernel)).trans ((hn₅ "old" (by decide +kernel)).trans eo)
                · exact (hn₉ "ok" (by decide +kernel)).trans ((hn₅ "ok" (by decide +kernel)).trans X₄.okv)
    · rintro f c1 ⟨rfl, m1, kind, old, new, X1⟩
      refine wpC_execs_cons ?_
      refine wpC_Assign_Name ?_
      have S1 := X1.S
      obtain ⟨vf1, ef1, rf1⟩ := X1.facts
      obtain ⟨uk1, ek1⟩ := X1.kv
      obtain ⟨vo1, eo1, ro1⟩ := X1.ov
      obtain ⟨vn1, ew1, rn1⟩ := X1.nv
      refine andC ?_
      refine ldL (K := mkK w mg mb s bm ob P) S1 X1.okv ?_
      refine wpAny_truthy_bool ?_
      simp only [if_true]
      refine wpC_Compare1 ?_
      refine wpC_of ?_
      refine ldL (K := mkK w mg mb s bm ob P) S1 ef1 ?_
      refine Tuple_ ?_
      refine wpAny_items_cons ?_
      refine ldL (K := mkK w mg mb s bm ob P) S1 ek1 ?_
      refine wpAny_items_cons ?_
      refine Call_ ?_
      refine ldGl (K := mkK w mg mb s bm ob P) S1 M.ltext ?_
      refine callDef (mg := mg) (mb := mb) rfl ?_
      refine args_cons ?_
      refine ldL (K := mkK w mg mb s bm ob P) S1 eo1 ?_
      refine args_nil ?_
      refine ⟨S1.gd, ?_⟩
      refine textL (K := mkK w mg mb s bm ob P) S1 (Nat.lt_trans (deep_facts _).1 (by decide)) (deep_facts _).2.1 ro1 X1.ho (by omega) fun ta sa Sa ka => ?_
      refine wpAny_items_cons ?_
      refine Call_ ?_
      refine ldGl (K := mkK w mg mb s bm ob P) Sa M.ltext ?_
      refine callDef (mg := mg) (mb := mb) rfl ?_
      refine args_cons ?_
      refine ldL (K := mkK w mg mb s bm ob P) Sa ew1 ?_
      refine args_nil ?_
      refine ⟨Sa.gd, ?_⟩
      refine textL (K := mkK w mg mb s bm ob P) Sa (Nat.lt_trans (deep_facts _).1 (by decide)) (deep_facts _).2.1 (rn1.lq (S1.lq ka)) X1.hn (by omega) fun tb sb Sb kb => ?_
      refine wpAny_items_nil ?_
      refine newTupleL (K := mkK w mg mb s bm ob P) Sb (.cons (.str _ _) (.cons (.str _ _) (.cons (.str _ _) .nil))) fun vz sr Sr kr rr => ?_
      have kz : Sp (mkK w mg mb s bm ob P) c1 sr := ka.trans (kb.trans kr)
      refine eqL (K := mkK w mg mb s bm ob P) (rf1.lq (S1.lq kz)) rr (shaped_tuple (flatF X1.hk X1.ho X1.hn)) (deep_facts _).2.2.2 ?_
      refine stM (K := mkK w mg mb s bm ob P) (Sr.tok _) fun m2 c2 hmq hnq Sq kq => ?_
      have kk1 : Sp (mkK w mg mb s bm ob P) c1 c2 := ⟨(kz.trans ⟨kq.keep⟩).keep⟩
      have lk1 := S1.lq kk1
      have X2 := X1.fin X0 Sq kk1 ⟨vf1, (hnq "facts" (by decide +kernel)).trans ef1, rf1.lq lk1⟩ ⟨uk1, (hnq "kind" (by decide +kernel)).trans ek1⟩ ⟨vo1, (hnq "old" (by decide +kernel)).trans eo1, ro1.lq lk1⟩ ⟨vn1, (hnq "new" (by decide +kernel)).trans ew1, rn1.lq lk1⟩ hmq X1.hk X1.ho X1.hn
      clear X1 S1 ef1 rf1 ek1 eo1 ro1 ew1 rn1 kk1 lk1 hnq hmq
      refine wpC_execs_cons ?_
      refine wpC_Assign_Name ?_
      have S2 := X2.S
      obtain ⟨vf2, ef2, rf2⟩ := X2.facts
      obtain ⟨uk2, ek2⟩ := X2.kv
      obtain ⟨vo2, eo2, ro2⟩ := X2.ov
      obtain ⟨vn2, ew2, rn2⟩ := X2.nv
      refine andC ?_
      refine ldL (K := mkK w mg mb s bm ob P) S2 X2.okv ?_
      refine wpAny_truthy_bool ?_
      simp only [if_true]
      refine wpC_Compare1 ?_
      refine CallC ?_
      refine ldGl (K := mkK w mg mb s bm ob P) S2 M.cv ?_
      refine callDefC (mg := mg) (mb := mb) rfl ?_
      refine args_cons ?_
      refine PyProof.Rows.Subscript_ ?_
      refine ldL (K := mkK w mg mb s bm ob P) (S2) ef2 ?_
      refine wpAny_Constant_int ?_
      refine itemT (i := 1) rf2 (by decide) rfl fun z rz => ?_
      obtain ⟨t0, rfl⟩ := rz.isStr
      refine args_nil ?_
      refine ⟨(S2.tok _).gd, ?_⟩
      refine cvL (K := mkK w mg mb s bm ob P) (S2.tok _) (deep_facts _).2.2.1 rfl (Nat.lt_trans (deep_facts _).1 (by decide)) (deep_facts _).2.1 (by have := X2.ho.short; omega) (fun c hc => Nat.lt_trans (X2.ho.cps c hc) (by decide)) fun va sa Sa ka ra => ?_
      have ka : Sp (mkK w mg mb s bm ob P) c2 sa := ⟨ka.keep⟩
      refine Call_ ?_
      refine ldGl (K := mkK w mg mb s bm ob P) Sa M.lranks ?_
      refine callDef (mg := mg) (mb := mb) rfl ?_
      refine args_cons ?_
      refine ldL (K := mkK w mg mb s bm ob P) Sa eo2 ?_
      refine args_nil ?_
      refine ⟨Sa.gd, ?_⟩
      refine ranksL (K := mkK w mg mb s bm ob P) Sa (Nat.lt_trans (deep_facts _).1 (by decide)) (deep_facts _).2.1 (ro2.lq (S2.lq ka)) X2.ho (by omega) fun vr sr Sr kr rr => ?_
      have kz : Sp (mkK w mg mb s bm ob P) c2 sr := ka.trans kr
      have ra' := (ra.lq (Sa.lq kr)).to (congrArg PyData.list (rk_txt w X2.ho))
      refine eqL (K := mkK w mg mb s bm ob P) ra' rr (shaped_list X2.ho.flatR) (deep_facts _).2.2.2 ?_
      refine stM (K := mkK w mg mb s bm ob P) (Sr.tok _) fun m3 c3 hmq hnq Sq kq => ?_
      have kk2 : Sp (mkK w mg mb s bm ob P) c2 c3 := ⟨(kz.trans ⟨kq.keep⟩).keep⟩
      have lk2 := S2.lq kk2
      have X3 := X2.fin X0 Sq kk2 ⟨vf2, (hnq "facts" (by decide +kernel)).trans ef2, rf2.lq lk2⟩ ⟨uk2, (hnq "kind" (by decide +kernel)).trans ek2⟩ ⟨vo2, (hnq "old" (by decide +kernel)).trans eo2, ro2.lq lk2⟩ ⟨vn2, (hnq "new" (by decide +kernel)).trans ew2, rn2.lq lk2⟩ hmq X2.hk X2.ho X2.hn
      clear X2 S2 ef2 rf2 ek2 eo2 ro2 ew2 rn2 kk2 lk2 hnq hmq
      refine wpC_execs_cons ?_
      refine wpC_Assign_Name ?_
      have S3 := X3.S
      obtain ⟨vf3, ef3, rf3⟩ := X3.facts
      obtain ⟨uk3, ek3⟩ := X3.kv
      obtain ⟨vo3, eo3, ro3⟩ := X3.ov
      obtain ⟨vn3, ew3, rn3⟩ := X3.nv
      refine andC ?_
      refine ldL (K := mkK w mg mb s bm ob P) S3 X3.okv ?_
      refine wpAny_truthy_bool ?_
      simp only [if_true]
      refine wpC_Compare1 ?_
      refine CallC ?_
      refine ldGl (K := mkK w mg mb s bm ob P) S3 M.cv ?_
      refine callDefC (mg := mg) (mb := mb) rfl ?_
      refine args_cons ?_
      refine PyProof.Rows.Subscript_ ?_
      refine ldL (K := mkK w mg mb s bm ob P) (S3) ef3 ?_
      refine wpAny_Constant_int ?_
      refine itemT (i := 2) rf3 (by decide) rfl fun z rz => ?_
      obtain ⟨t0, rfl⟩ := rz.isStr
      refine args_nil ?_
      refine ⟨(S3.tok _).gd, ?_⟩
      refine cvL (K := mkK w mg mb s bm ob P) (S3.tok _) (deep_facts _).2.2.1 rfl (Nat.lt_trans (deep_facts _).1 (by decide)) (deep_facts _).2.1 (by have := X3.hn.short; omega) (fun c hc => Nat.lt_trans (X3.hn.cps c hc) (by decide)) fun va sa Sa ka ra => ?_
      have ka : Sp (mkK w mg mb s bm ob P) c3 sa := ⟨ka.keep⟩
      refine Call_ ?_
      refine ldGl (K := mkK w mg mb s bm ob P) Sa M.lranks ?_
      refine callDef (mg := mg) (mb := mb) rfl ?_
      refine args_cons ?_
      refine ldL (K := mkK w mg mb s bm ob P) Sa ew3 ?_
      refine args_nil ?_
      refine ⟨Sa.gd, ?_⟩
      refine ranksL (K := mkK w mg mb s bm ob P) Sa (Nat.lt_trans (deep_facts _).1 (by decide)) (deep_facts _).2.1 (rn3.lq (S3.lq ka)) X3.hn (by omega) fun vr sr Sr kr rr => ?_
      have kz : Sp (mkK w mg mb s bm ob P) c3 sr := ka.trans kr
      have ra' := (ra.lq (Sa.lq kr)).to (congrArg PyData.list (rk_txt w X3.hn))
      refine eqL (K := mkK w mg mb s bm ob P) ra' rr (shaped_list X3.hn.flatR) (deep_facts _).2.2.2 ?_
      refine stM (K := mkK w mg mb s bm ob P) (Sr.tok _) fun m4 c4 hmq hnq Sq kq => ?_
      have kk3 : Sp (mkK w mg mb s bm ob P) c3 c4 := ⟨(kz.trans ⟨kq.keep⟩).keep⟩
      have lk3 := S3.lq kk3
      have X4 := X3.fin X0 Sq kk3 ⟨vf3, (hnq "facts" (by decide +kernel)).trans ef3, rf3.lq lk3⟩ ⟨uk3, (hnq "kind" (by decide +kernel)).trans ek3⟩ ⟨vo3, (hnq "old" (by decide +kernel)).trans eo3, ro3.lq lk3⟩ ⟨vn3, (hnq "new" (by decide +kernel)).trans ew3, rn3.lq lk3⟩ hmq X3.hk X3.ho X3.hn
      clear X3 S3 ef3 rf3 ek3 eo3 ro3 ew3 rn3 kk3 lk3 hnq hmq
      refine wpC_execs_cons ?_
      refine wpC_Assign_Name ?_
      have S4 := X4.S
      obtain ⟨vf4, ef4, rf4⟩ := X4.facts
      obtain ⟨uk4, ek4⟩ := X4.kv
      obtain ⟨vo4, eo4, ro4⟩ := X4.ov
      obtain ⟨vn4, ew4, rn4⟩ := X4.nv
      refine andC ?_
      refine ldL (K := mkK w mg mb s bm ob P) S4 X4.okv ?_
      refine wpAny_truthy_bool ?_
      simp only [if_true]
      refine wpC_Compare1 ?_
      refine CallC ?_
      refine ldGl (K := mkK w mg mb s bm ob P) S4 M.cv ?_
      refine callDefC (mg := mg) (mb := mb) rfl ?_
      refine args_cons ?_
      refine Call_ ?_
      refine ldGl (K := mkK w mg mb s bm ob P) S4 M.pf ?_
      refine callDef (mg := mg) (mb := mb) rfl ?_
      refine args_cons ?_
      refine PyProof.Rows.Subscript_ ?_
      refine ldL (K := mkK w mg mb s bm ob P) (S4) ef4 ?_
      refine wpAny_Constant_int ?_
      refine itemT (i := 0) rf4 (by decide) rfl fun z rz => ?_
      obtain ⟨t0, rfl⟩ := rz.isStr
      refine args_cons ?_
      refine PyProof.Rows.Subscript_ ?_
      refine ldL (K := mkK w mg mb s bm ob P) (S4.tok _) ef4 ?_
      refine wpAny_Constant_int ?_
      refine itemT (i := 1) rf4 (by decide) rfl fun z rz => ?_
      obtain ⟨t1, rfl⟩ := rz.isStr
      refine args_cons ?_
      refine PyProof.Rows.Subscript_ ?_
      refine ldL (K := mkK w mg mb s bm ob P) (S4.tok _) ef4 ?_
      refine wpAny_Constant_int ?_
      refine itemT (i := 2) rf4 (by decide) rfl fun z rz => ?_
      obtain ⟨t2, rfl⟩ := rz.isStr
      refine args_nil ?_
      refine ⟨(S4.tok _).gd, ?_⟩
      have hos := X4.ho.short
      have hns := X4.hn.short
      have hks := (kind_ok X4.hk).2
      refine pfL (K := mkK w mg mb s bm ob P) (S4.tok _) (Nat.lt_trans (deep_facts _).1 (by decide)) (deep_facts _).2.1 (by omega) (by omega) (by omega) fun xn tn sn Sn kn hred => ?_
      refine args_nil ?_
      refine ⟨Sn.gd, ?_⟩
      have hrl := red_len X4.hk X4.ho X4.hn (by omega) hred
      have hrc := red_ok X4.hk X4.ho X4.hn hred
      refine cvL (K := mkK w mg mb s bm ob P) Sn (deep_facts _).2.2.1 rfl (Nat.lt_trans (deep_facts _).1 (by decide)) (deep_facts _).2.1 (by omega) (fun c hc => Nat.lt_trans (okT_lt hrc c hc) (by decide)) fun va sa Sa ka ra => ?_
      have ka : Sp (mkK w mg mb s bm ob P) c4 sa := ⟨(kn.trans ka).keep⟩
      have la := S4.lq ka
      refine Call_ ?_
      refine ldGl (K := mkK w mg mb s bm ob P) Sa M.lseen ?_
      refine callDef (mg := mg) (mb := mb) rfl ?_
      refine args_cons ?_
      refine ldL (K := mkK w mg mb s bm ob P) Sa ek4 ?_
      refine args_cons ?_
      refine wpAny_BinOp ?_
      refine ldL (K := mkK w mg mb s bm ob P) Sa eo4 ?_
      refine ldL (K := mkK w mg mb s bm ob P) Sa ew4 ?_
      refine addListL (K := mkK w mg mb s bm ob P) Sa (ro4.lq la) (rn4.lq la) (by have := X4.ho.len; have := X4.hn.len; simp; omega) fun vc sb Sb kb rc => ?_
      refine args_nil ?_
      refine ⟨Sb.gd, ?_⟩
      have hon : Lst (old ++ new) 30 := ⟨by simp [X4.ho.ne], fun p hp => (List.mem_append.mp hp).elim (X4.ho.ok p) (X4.hn.ok p), by have := X4.ho.len; have := X4.hn.len; rw [List.length_append]; omega⟩
      refine seenL (K := mkK w mg mb s bm ob P) Sb (Nat.lt_trans (deep_facts _).1 (by decide)) (deep_facts _).2.1 (rc.to (by rw [List.map_append])) hon (by decide) fun vr sr Sr kr rr => ?_
      have kz : Sp (mkK w mg mb s bm ob P) c4 sr := ka.trans (kb.trans kr)
      have ra' := ((ra.lq (Sa.lq kb)).lq (Sb.lq kr)).to (congrArg PyData.list (plat_rk w X4.hk X4.ho X4.hn hred))
      refine eqL (K := mkK w mg mb s bm ob P) ra' rr (shaped_list (flatS X4.hk hon.ok)) (deep_facts _).2.2.2 ?_
      refine stM (K := mkK w mg mb s bm ob P) (Sr.tok _) fun m5 c5 hmq hnq Sq kq => ?_
      have kk4 : Sp (mkK w mg mb s bm ob P) c4 c5 := ⟨(kz.trans ⟨kq.keep⟩).keep⟩
      have lk4 := S4.lq kk4
      have X5 := X4.fin X0 Sq kk4 ⟨vf4, (hnq "facts" (by decide +kernel)).trans ef4, rf4.lq lk4⟩ ⟨uk4, (hnq "kind" (by decide +kernel)).trans ek4⟩ ⟨vo4, (hnq "old" (by decide +kernel)).trans eo4, ro4.lq lk4⟩ ⟨vn4, (hnq "new" (by decide +kernel)).trans ew4, rn4.lq lk4⟩ hmq X4.hk X4.ho X4.hn
      clear X4 S4 ef4 rf4 ek4 eo4 ro4 ew4 rn4 kk4 lk4 hnq hmq
      refine wpC_of ?_
      refine wpAny_execs_nil ?_
      exact ⟨items.length - (i + 1), by omega, i + 1, m5, kind, old, new, X5, he, rfl⟩
  · refine wpAny_pyNext_list_end (deep_facts _).2.1 X.itr X.src (by simp; omega) fun h₂ he₂ => ?_
    dsimp only
    refine wpC_execs_cons ?_
    refine wpC_of ?_
    refine wpAny_Return_some ?_
    have S' := X.S.ext he₂ X0.iL X0.i0
    refine ldL (K := mkK w mg mb s bm ob P) S' X.okv ?_
    exact hfin _ _ S'
end
end Mine
end
section
open PySem PySem.W PyProof.Rows PySem.Calls
set_option maxRecDepth 100000
set_option maxHeartbeats 8000000
namespace Mine
theorem rd_of_ints {h : Heap} {vs : List Value} {ns : List Int} (x : IntsAre vs ns) : RdAll Every h vs (ns.map .int) := by
  induction x with
  | nil => exact .nil
  | cons n t _ ih => exact .cons (.int _ _) ih
theorem walk_done : PySem.Challenge.rw_rl0146_01.Holds := by
  refine hdC ?_
  intro w s₀ s₁ mg mb G Y fa o pm cd doc dV kV ho hd hcd hD hmg hg args vals as hpre hlay hrd hwl hlo
  have KX := kIn_of Y
  refine Ground.open G ?_
  intro T B D TE TW
  obtain ⟨bm, ob, Mb⟩ := bmod_of_top T
  have TR := topRead_of T
  wrow_args hpre hlay hrd hwl hlo
  rename_i ns _ _ _ _ _ _ _ la vs _ hL _ _ _ hI _ hlen _
  have Gd' : Gd w mg mb s₁.heap := ⟨KX, TR⟩
  have h114 : mg "law" = some (.ref 114) := mg_of KX TR.g (by kernel_rfl!)
  have hfa : some (Value.ref 114) = some (.ref fa) := h114.symm.trans hmg
  cases hfa
  obtain ⟨c, P, hc, B66⟩ := based_of_top (name := "_platform") T rfl Gd'.nm.pf (KX 66 _ rfl) rfl
  have hc : Value.ref 65 = .ref c := hc
  cases hc
  refine law_spec Gd' B66 Mb (.of_eq hg) (v := .ref la) (ns := ns) ?_ (by omega) fun s' hold hos hb => ?_
  · obtain ⟨o, e1, e2, n, e3⟩ := hL
    exact .list trivial e1 e2 e3 (by simpa using rd_of_ints hI)
  · exact ⟨.inl ⟨.bool true, .bool true, [], rfl, raisesW_false (by wrow_none_raised), .bool true, postW_of (by wrow_shape) (by wtm_val) (by w_fin), unshared_nil⟩, hold, hos, hb⟩
end Mine
end
theorem PySem.Challenge.cw_rl0146_01_holds : PySem.Challenge.rw_rl0146_01.Holds := by
  exact Mine.walk_done

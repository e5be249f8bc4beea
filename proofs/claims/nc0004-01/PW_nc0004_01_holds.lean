import PyProof.Rows.All
import Wide.All
import OpenK.AllK
import Wide.FinOn
import PyProof.IsiBase
import KE.KSlice
import PySem.Challenge.RW_nc0004_01
set_option Elab.async false
section
open PySem PySem.W PyProof.Rows
namespace Mine
open PySem.Sem (wp)

/-- a code that is no decoder holding its argument -/
def cleanCode : Code → Bool
  | .builtin id _ => !(Builtin.Bytes.decodersThatHold.contains id)
  | _ => true
/-- no decoder stands on the stack -/
def Clean (Γ : Ctx) : Prop := cleanCode Γ.code = true ∧ ∀ x ∈ Γ.below, cleanCode x.1 = true
theorem Clean.enter {Γ : Ctx} (h : Clean Γ) (c : Code) (hd : Option Value) (p : Pos) (hc : cleanCode c = true) : Clean (Γ.enter c hd p) :=
  ⟨hc, fun x hx => by
    rcases List.mem_cons.mp hx with rfl | hx
    · exact h.1
    · exact h.2 x hx⟩
theorem Clean.goto {Γ : Ctx} (h : Clean Γ) (c : Code) (hc : cleanCode c = true) : Clean (Γ.goto c) := ⟨hc, h.2⟩

def wpC {α : Type} (M : Model) (A : Around) (t : Sem α) (Q : α → Shared → Prop) (E : Value → Shared → Prop) (s : Shared) : Prop :=
  ∀ Γ p, Γ.In A → Clean Γ → wp M Γ t (fun a _ s' => Q a s') (fun e _ s' => E e s') p s
def codeC (M : Model) (A : Around) (c : Code) (R : Result → Shared → Prop) (s : Shared) : Prop :=
  ∀ Γ p, Γ.code = c → Γ.Below A → Clean Γ → wpCode M Γ R p s

section
variable {α β : Type} {M : Model} {A : Around} {E : Value → Shared → Prop} {s : Shared}
theorem wpC_of {t : Sem α} {Q : α → Shared → Prop} (h : wpAny M A t Q E s) : wpC M A t Q E s := fun Γ p hΓ _ => h Γ p hΓ
theorem codeC_of {c : Code} {R : Result → Shared → Prop} (h : codeAny M A c R s) : codeC M A c R s := fun Γ p hc hΓ _ => h Γ p hc hΓ
theorem wpC_pure {a : α} {Q : α → Shared → Prop} (h : Q a s) : wpC M A (pure a) Q E s := fun _ _ _ _ => h
theorem wpC_mono {t : Sem α} {Q Q' : α → Shared → Prop} {E' : Value → Shared → Prop} (h : wpC M A t Q E s) (hQ : ∀ a s, Q a s → Q' a s) (hE : ∀ e s, E e s → E' e s) : wpC M A t Q' E' s :=
  fun Γ p hΓ hc => Sem.wp_mono M Γ t (fun a _ s => hQ a s) (fun e _ s => hE e s) p s (h Γ p hΓ hc)
theorem wpC_bind {m : Sem α} {f : α → Sem β} {Q : β → Shared → Prop} (h : wpC M A m (fun a s' => wpC M A (f a) Q E s') E s) : wpC M A (m >>= f) Q E s := fun Γ p hΓ hc => by
  rw [Sem.wp_bind']
  exact Sem.wp_mono M Γ m (fun a p' s' h' => h' Γ p' hΓ hc) (fun _ _ _ h' => h') p s (h Γ p hΓ hc)
/-- a head that needs no clean stack -/
theorem wpC_lift {m : Sem α} {f : α → Sem β} {Q : β → Shared → Prop} (h : wpAny M A m (fun a s' => wpC M A (f a) Q E s') E s) : wpC M A (m >>= f) Q E s := wpC_bind (wpC_of h)
theorem wpC_onRaise {m : Sem α} {k : Value → Sem Unit} {Q : α → Shared → Prop} (h : wpC M A m Q (fun e s' => wpAny M A (k e) (fun _ s'' => E e s'') E s') s) : wpC M A (m.onRaise k) Q E s := fun Γ p hΓ hc => by
  rw [Sem.wp_onRaise]
  exact Sem.wp_mono M Γ m (fun _ _ _ h' => h') (fun e p' s' h' => h' Γ p' hΓ) p s (h Γ p hΓ hc)
theorem wpC_attempt {m : Sem α} {Q : Except Value α → Shared → Prop} (h : wpC M A m (fun a => Q (.ok a)) (fun e => Q (.error e)) s) : wpC M A m.attempt Q E s := fun Γ p hΓ hc => by
  rw [Sem.wp_attempt]; exact h Γ p hΓ hc
theorem wpC_holding {vs : List Value} {m : Sem α} {Q : α → Shared → Prop} (h : wpC M A m Q E s) : wpC M A (holding vs m) Q E s := fun Γ p hΓ hc => by
  rw [Sem.wp_holding]; exact h Γ p hΓ hc
theorem wpC_run {c : Code} {h : Option Value} {Q : Flow → Shared → Prop}
    (hc : codeC M (A.mark h) c (fun r s' => match r with | .ok f => Q f s' | .error e => E e s') s) (hcl : cleanCode c = true) (hnb : h ≠ some byPass := by intro x; cases x) : wpC M A (run c h) Q E s :=
  fun Γ p hΓ hΓc => by rw [Sem.wp_run]; exact hc _ p rfl (hΓ.enter c h p hnb) (hΓc.enter c h p hcl)
theorem wpC_runValue {c : Code} {Q : Value → Shared → Prop}
    (hc : codeC M A c (fun r s' => match r with | .ok (.ret v) => Q v s' | .ok _ => False | .error e => E e s') s) (hcl : cleanCode c = true) : wpC M A (runValue c) Q E s := fun Γ p hΓ hΓc => by
  rw [Sem.wp_runValue]; exact hc _ p rfl (hΓ.enter c none p (by intro x; cases x)) (hΓc.enter c none p hcl)
theorem wpC_call {f : Value} {pos : List Value} {kw : List (Str × Value)} {Q : Value → Shared → Prop}
    (hc : codeC M A (.call f ⟨pos, kw⟩) (fun r s' => match r with | .ok (.ret v) => Q v s' | .ok _ => False | .error e => E e s') s) : wpC M A (call f pos kw) Q E s := wpC_runValue hc rfl
theorem codeC_mono {c : Code} {R R' : Result → Shared → Prop} (h : codeC M A c R s) (hR : ∀ r s, R r s → R' r s) : codeC M A c R' s :=
  fun Γ p hc hΓ hk => wpCode_mono hR (h Γ p hc hΓ hk)
theorem codeC_of_tree {c : Code} {R : Result → Shared → Prop}
    (h : wpC M (A.under c) (M.den c) (fun fin s' => match fin with | .done f => R (.ok f) s' | .again c' => c'.quiet = true ∧ cleanCode c' = true ∧ codeC M A c' R s')
      (fun e s' => R (.error e) s') s) : codeC M A c R s := fun Γ p hc hΓ hk => by
  rw [wpCode_iff_wp, hc]
  refine Sem.wp_mono M Γ _ (fun fin p' s' h' => ?_) (fun _ _ _ h' => h') p s (h Γ p (hc ▸ hΓ.in) hk)
  cases fin with
  | done f => exact h'
  | again c' => exact ⟨h'.1, h'.2.2 (Γ.goto c') p' rfl (hΓ.goto c') (hk.goto c' h'.2.1)⟩
theorem codeC_loop {c : Code} {R : Result → Shared → Prop} (hq : c.quiet = true) (hcl : cleanCode c = true) (I : Nat → Shared → Prop)
    (turn : ∀ n s, I n s → wpC M (A.under c) (M.den c)
      (fun fin s' => match fin with | .done f => R (.ok f) s' | .again c' => c' = c ∧ ∃ m, m < n ∧ I m s') (fun e s' => R (.error e) s') s)
    (n : Nat) (h : I n s) : codeC M A c R s := by
  induction n using Nat.strongRecOn generalizing s with
  | ind n ih =>
    refine codeC_of_tree (wpC_mono (turn n s h) (fun fin s' hf => ?_) fun _ _ h' => h')
    cases fin with
    | done f => exact hf
    | again c' => obtain ⟨rfl, m, hm, hI⟩ := hf; exact ⟨hq, hcl, ih m hm hI⟩
end

/-- nothing holds the bytearray while no decoder and no guard stands below -/
theorem wpC_exported {M : Model} {A : Around} {E : Value → Shared → Prop} {s : Shared} {v : Value} {Q : Bool → Shared → Prop} (hg : A.guards = some []) (h : Q false s) : wpC M A (Builtin.Bytes.exported v) Q E s := fun Γ p hΓ hk => by
  have hgs := hΓ.2.2.2.1 [] hg
  have hl : guardsOf ((Γ.code, p) :: Γ.below) = [] := by rw [guardsOf_cons]; exact hgs
  have hcl : ∀ x ∈ (Γ.code, p) :: Γ.below, cleanCode x.1 = true := fun x hx => by
    rcases List.mem_cons.mp hx with rfl | hx
    · exact hk.1
    · exact hk.2 x hx
  have hng : ∀ y ∈ (Γ.code, p) :: Γ.below, y.1.isGuard = false := by
    intro y hy
    cases hgy : y.1.isGuard with
    | false => rfl
    | true =>
      have : y.1 ∈ guardsOf ((Γ.code, p) :: Γ.below) := List.mem_filter.mpr ⟨List.mem_map.mpr ⟨y, hy, rfl⟩, hgy⟩
      rw [hl] at this; cases this
  have fin : ∀ b, b = false → Q b s := fun b e => by rw [e]; exact h
  show Q (((Γ.code, p) :: Γ.below).any _) s
  refine fin _ ?_
  rw [List.any_eq_false]
  intro x hx
  have hg1 := hng x hx
  have hc1 := hcl x hx
  split
  · exact absurd hg1 (by simp [Code.isGuard, guardIds])
  · exact absurd hg1 (by simp [Code.isGuard, guardIds])
  · exact absurd hg1 (by simp [Code.isGuard, guardIds])
  · exact absurd hg1 (by simp [Code.isGuard, guardIds])
  · exact absurd hg1 (by simp [Code.isGuard, guardIds])
  · simp only [cleanCode, Bool.not_eq_true'] at hc1
    rw [hc1, Bool.and_false]; exact Bool.false_ne_true
  · exact Bool.false_ne_true
theorem wpC_checkResize {M : Model} {A : Around} {E : Value → Shared → Prop} {s : Shared} {a : Addr} {o : Obj} {b : Array UInt8} {Q : Unit → Shared → Prop} (hg : A.guards = some []) (ho : s.heap.get? a = some o) (hd : o.data = .bytearray b 0) (h : Q () s) :
    wpC M A (Builtin.Bytes.checkResize (.ref a)) Q E s := by
  unfold Builtin.Bytes.checkResize
  refine wpC_bind (Q := fun _ s' => _) ?_
  refine wpC_bind (wpC_exported hg ?_)
  show wpC M A (do let n ← Builtin.Bytes.exportsOf (.ref a); pure (decide (n > 0))) _ E s
  refine wpC_lift ?_
  unfold Builtin.Bytes.exportsOf
  refine wpAny_bind (wpAny_load ho ?_)
  rw [hd]
  exact wpAny_pure (wpC_pure (wpC_pure h))

section
variable {M : Model} {A : Around} {E : Value → Shared → Prop} {s : Shared} {env : Env}
theorem wpC_execs_nil {Q : Flow → Shared → Prop} (h : Q .next s) : wpC M A (execs [] env) Q E s := fun _ _ _ _ => h
theorem wpC_execs_cons {st rest} {Q : Flow → Shared → Prop}
    (h : wpC M A (exec st env) (fun f s' => match f with | .next => wpC M A (execs rest env) Q E s' | f => Q f s') E s) : wpC M A (execs (st :: rest) env) Q E s := by
  rw [execs_cons]
  refine wpC_bind (wpC_mono h (fun f s' h' => ?_) fun _ _ x => x)
  cases f <;> first | exact h' | exact wpC_pure h'
/-- a statement that needs no clean stack -/
theorem wpC_execs_any {st rest} {Q : Flow → Shared → Prop}
    (h : wpAny M A (exec st env) (fun f s' => match f with | .next => wpC M A (execs rest env) Q E s' | f => Q f s') E s) : wpC M A (execs (st :: rest) env) Q E s := wpC_execs_cons (wpC_of h)
theorem execs_append (xs ys : List Stmt) : execs (xs ++ ys) env = (do match ← execs xs env with | .next => execs ys env | f => pure f) := by
  induction xs with
  | nil => rfl
  | cons x xs ih =>
    rw [List.cons_append, execs_cons, execs_cons, ih]
    show Sem.bind _ _ = Sem.bind (Sem.bind _ _) _
    rw [show ∀ (m : Sem Flow) (f g : Flow → Sem Flow), Sem.bind (Sem.bind m f) g = Sem.bind m fun x => Sem.bind (f x) g from fun m f g => bind_assoc m f g]
    congr 1
    funext f
    cases f <;> rfl
/-- a head of statements that needs no clean stack -/
theorem wpC_execs_split {xs ys : List Stmt} {Q : Flow → Shared → Prop}
    (h : wpAny M A (execs xs env) (fun f s' => match f with | .next => wpC M A (execs ys env) Q E s' | f => Q f s') E s) : wpC M A (execs (xs ++ ys) env) Q E s := by
  rw [execs_append]
  refine wpC_lift (wpAny_mono h (fun f s' h' => ?_) fun _ _ x => x)
  cases f <;> first | exact h' | exact wpC_pure h'
theorem wpC_standAt {β : Type} {pos : Pos} {f : Unit → Sem β} {Q : β → Shared → Prop} (h : wpC M A (f ()) Q E s) : wpC M A (standAt pos >>= f) Q E s := wpC_lift (wpAny_standAt h)
theorem wpC_Assign_Name {x pos' value pos} {Q : Flow → Shared → Prop}
    (h : wpC M A (eval value env) (fun v s₁ => wpAny M A (storeName env x v) (fun _ => Q .next) E s₁) E s)
    (hs : swapsWith value (some (.Name x pos')) pos.line env = pure false := by rfl) : wpC M A (exec (.Assign [.Name x pos'] value pos) env) Q E s := by
  rw [exec_Assign_Name env x pos' value pos hs]
  exact wpC_standAt (wpC_bind (wpC_mono h (fun v s₁ h₁ => wpC_standAt (wpC_lift (wpAny_bindName (wpAny_mono h₁ (fun _ _ q => wpC_pure q) fun _ _ x => x)))) fun _ _ x => x))
theorem wpC_AugAssign_Name {x pos' op value pos} {Q : Flow → Shared → Prop}
    (h : wpAny M A (loadName env x) (fun old s₁ => wpAny M A (eval value env) (fun v s₂ => wpC M A (inplaceOp op old v)
      (fun r s₃ => wpAny M A (storeName env x r) (fun _ => Q .next) E s₃) E s₂) E s₁) E s) : wpC M A (exec (.AugAssign (.Name x pos') op value pos) env) Q E s := by
  rw [exec_AugAssign_Name]
  refine wpC_standAt (wpC_lift (wpAny_mono h (fun old s₁ h₁ => wpC_lift (wpAny_holding (wpAny_mono h₁ (fun v s₂ h₂ => wpC_standAt ?_) fun _ _ x => x))) fun _ _ x => x))
  refine wpC_bind (fun Γ p hΓ hc => ?_)
  rw [Sem.wp_operate]
  exact wpC_mono h₂ (fun r s₃ h₃ => wpC_standAt (wpC_lift (wpAny_bindName (wpAny_mono h₃ (fun _ _ q => wpC_pure q) fun _ _ x => x)))) (fun _ _ x => x) Γ p hΓ hc
theorem wpC_If {test body orelse pos} {Q : Flow → Shared → Prop}
    (h : wpAny M A (isTrue test env (eval test env)) (fun b s₂ => if b then wpC M A (execs body env) Q E s₂ else wpC M A (execs orelse env) Q E s₂) E s) :
    wpC M A (exec (.If test body orelse pos) env) Q E s := by
  rw [exec_If]
  refine wpC_standAt (wpC_lift (wpAny_mono h (fun b s₂ h₂ => ?_) fun _ _ x => x))
  cases b <;> exact h₂
theorem wpC_Expr {e pos} {Q : Flow → Shared → Prop} (h : wpC M A (eval e env) (fun v s' => match v with | .ref _ => False | _ => Q .next s') E s)
    (hi : interactive env = false := by rfl) (hs : swapsWith e none pos.line env = pure false := by rfl) : wpC M A (exec (.Expr e pos) env) Q E s := by
  rw [exec_Expr env e pos hi hs]
  refine wpC_standAt (wpC_bind (wpC_mono h (fun v s' h' => ?_) fun _ _ x => x))
  have hv : ∀ a, v ≠ .ref a := fun a hva => by subst hva; exact h'
  rw [dropValue_plain hv]
  refine wpC_pure ?_
  cases v <;> first | exact h' | exact (hv _ rfl).elim
theorem wpC_runOwn {c : Code} {h : Option Value} {Q : Flow → Shared → Prop}
    (hc : codeC M (A.mark h) c (fun r s' => match r with | .ok f => Q f s' | .error e => cameBackBy M A env E e s') s) (hcl : cleanCode c = true) (hnb : h ≠ some byPass := by intro x; cases x) :
    wpC M A (runOwn c env h) Q E s := by
  unfold runOwn
  exact wpC_onRaise (wpC_run hc hcl hnb)
theorem wpC_While {test body orelse pos} {Q : Flow → Shared → Prop}
    (h : codeC M A (.whileLoop test body orelse env) (fun r s' => match r with | .ok f => Q f s' | .error e => cameBackBy M A env E e s') s) :
    wpC M A (exec (.While test body orelse pos) env) Q E s := by
  rw [exec_While]; exact wpC_standAt (wpC_runOwn h rfl)
theorem wpC_For {target iter body orelse pos} {Q : Flow → Shared → Prop}
    (h : wpAny M A (eval iter env) (fun x s₁ => wpAny M A (pyIter x) (fun it s₂ =>
      codeC M A (.forLoop target it body orelse env) (fun r s' => match r with | .ok f => Q f s' | .error e => cameBackBy M A env E e s') s₂) E s₁) E s)
    (hs : ∀ x, foldedSetIterable iter env x = pure x := by intro _; rfl) : wpC M A (exec (.For target iter body orelse pos) env) Q E s := by
  rw [exec_For]
  exact wpC_standAt (wpC_lift (wpAny_mono h (fun x s₁ h₁ => wpC_lift (wpAny_of_eq (hs x) (wpC_standAt (wpC_lift (wpAny_holding (wpAny_mono h₁ (fun it s₂ h₂ => wpC_runOwn h₂ rfl) fun _ _ x => x)))))) fun _ _ x => x))
theorem wpC_noted {α : Type} {m : Sem α} {Q : α → Shared → Prop} (h : wpC M A m Q (notedBy M A env E) s) : wpC M A (m.onRaise fun x => do noteFrame x env; theTreesLotGoes x) Q E s :=
  wpC_onRaise (wpC_mono h (fun _ _ q => q) fun _ _ hx => wpAny_bind (wpAny_mono hx (fun _ _ e => wpAny_theTreesLotGoes e) fun _ _ e => e))
theorem wpC_keep {α : Type} {vs : List Value} {m : Sem α} {Q : α → Shared → Prop} (h : wpC M A m Q E s) : wpC M A (m.keep vs) Q E s :=
  fun Γ p hΓ hc => by rw [Sem.wp_keep]; exact h Γ p hΓ hc
theorem wpC_callWith_machine {pos : Pos} {f : Value} {first : List Value} {args : List (Bool × Sem Value)} {Q : Value → Shared → Prop} (hf : keeperOf f = pure .machine) (hplain : args.any (·.1) = false)
    (h : wpAny M A (evalArgs f true args []) (fun a s₁ => wpC M A (call f (first ++ a.pos) a.kw) Q E s₁) E s) : wpC M A (callWith pos f first args []) Q E s := by
  unfold callWith
  refine wpC_lift (wpAny_holding (wpAny_mono h (fun a s₁ h₁ => wpC_standAt ?_) fun _ _ x => x))
  simp only [hplain, List.any_nil, Bool.or_false]
  rw [hf]
  refine wpC_bind (wpC_pure ?_)
  exact wpC_bind (wpC_mono h₁ (fun r s₂ hr => wpC_lift (wpAny_holding (wpAny_point (wpC_pure hr)))) fun _ _ x => x)
theorem wpC_callWith_function {pos : Pos} {a : Addr} {o : Obj} {fd : FuncData} {args : List (Bool × Sem Value)} {Q : Value → Shared → Prop} (hplain : args.any (·.1) = false) (hn : args.length ≤ 30)
    (h : wpAny M A (evalArgs (.ref a) true args []) (fun x s₁ => (s₁.heap.get? a = some o ∧ o.data = .func fd) ∧ wpC M A (call (.ref a) x.pos x.kw) Q E s₁) E s) : wpC M A (callWith pos (.ref a) [] args []) Q E s := by
  unfold callWith
  refine wpC_lift (wpAny_holding (wpAny_mono h (fun x s₁ h₁ => wpC_standAt ?_) fun _ _ x => x))
  simp only [hplain, List.any_nil, Bool.or_false]
  refine wpC_lift (m := keeperOf (.ref a)) ?_
  unfold keeperOf
  refine wpAny_bind (wpAny_load h₁.1.1 ?_)
  rw [h₁.1.2]
  refine wpAny_pure ?_
  show wpC M A (if args.length + 2 * ([] : List (Option Str × Sem Value)).length > 30 then _ else _) _ E s₁
  rw [if_neg (by simp; omega)]
  unfold callMarked
  refine wpC_bind (wpC_keep (wpC_mono h₁.2 (fun r s₂ hr => wpC_lift (wpAny_holding (wpAny_point (wpC_pure hr)))) fun _ _ x => x))
end

section
variable {prog : Program} {w : World} {A : Around} {E : Value → Shared → Prop} {R : Result → Shared → Prop} {s : Shared} {env : Env}
theorem codeC_whileLoop {test body orelse} (I : Nat → Shared → Prop)
    (turn : ∀ n s, I n s → wpAny (model prog w) A (isTrue test env (eval test env)) (fun b s₂ =>
        if b then wpC (model prog w) A (execs body env) (fun f s₃ => match f with
            | .next | .cont => ∃ m, m < n ∧ I m s₃
            | .brk => R (.ok .next) s₃
            | .ret v => R (.ok (.ret v)) s₃) (notedBy (model prog w) A env fun e s' => R (.error e) s') s₂
        else wpC (model prog w) A (execs orelse env) (fun f s₃ => R (.ok f) s₃) (notedBy (model prog w) A env fun e s' => R (.error e) s') s₂)
        (notedBy (model prog w) A env fun e s' => R (.error e) s') s)
    (n : Nat) (h : I n s) : codeC (model prog w) A (.whileLoop test body orelse env) R s := by
  refine codeC_loop rfl rfl I (fun n s hI => ?_) n h
  show wpC _ A ((whileTurn test body orelse env).onRaise (fun x => do noteFrame x env; theTreesLotGoes x)) _ _ s
  refine wpC_noted ?_
  simp only [whileTurn]
  refine wpC_lift (wpAny_mono (turn n s hI) (fun b s₂ h₂ => ?_) fun _ _ h' => h')
  cases b with
  | false =>
    simp only [Bool.false_eq_true, if_false] at h₂ ⊢
    exact wpC_bind (wpC_mono h₂ (fun f s₃ h₃ => wpC_pure h₃) fun _ _ h' => h')
  | true =>
    simp only [if_true] at h₂ ⊢
    refine wpC_bind (wpC_mono h₂ (fun f s₃ h₃ => ?_) fun _ _ h' => h')
    cases f with
    | next => exact wpC_pure ⟨rfl, h₃⟩
    | cont => exact wpC_pure ⟨rfl, h₃⟩
    | brk => exact wpC_pure h₃
    | ret v => exact wpC_pure h₃
theorem codeC_func {body}
    (h : wpC (model prog w) (A.deeper env) (execs body env) (fun f s' => R (.ok (.ret (match f with | .ret v => v | _ => .none))) s')
      (fun e s' => wpAny (model prog w) (A.deeper env) (leaving env e) (fun _ s'' => R (.error e) s'') (fun e' s'' => R (.error e') s'') s') s) :
    codeC (model prog w) A (.func body env) R s := by
  refine codeC_of_tree ?_
  show wpC _ (A.deeper env) (do point; match ← (execs body env).onRaise (leaving env) with | .ret v => ret v | _ => ret .none) _ _ s
  refine wpC_lift (wpAny_point (wpC_bind (wpC_onRaise (wpC_mono h (fun f s' h' => ?_) fun _ _ h' => h'))))
  cases f <;> exact wpC_pure h'
theorem codeC_call_function {a : Addr} {args : Args} {o : Obj} {fd : FuncData} {body : List Stmt} (hroom : A.depth < recursionLimit)
    (ho : s.heap.get? a = some o)
    (hd' : o.data = .func fd) (hco : fd.scope.isCoroutine = false) (hgen : fd.scope.isGenerator = false) (hbody : fd.body = .stmts body) (hcd : s.heap.CodeRec fd.code fd.qualname)
    (h : wpAny (model prog w) A.in1 (bindArgs fd args) (fun binds s₁ =>
      wpAny (model prog w) A.in1 (newFunctionEnv fd.scope fd.globals fd.closure binds (fd.qualname ++ ".<locals>.") (some a) fd.code none fd.builtins)
        (fun env s₂ => s₂.heap.NoLimit ∧ codeC (model prog w) A (.func body env) R s₂) (fun e s' => R (.error e) s') s₁) (fun e s' => R (.error e) s') s) :
    codeC (model prog w) A (.call (.ref a) args) R s := by
  refine codeC_of_tree ?_
  show wpC _ A.in1 (callAny (.ref a) args) _ _ s
  simp only [callAny]
  refine wpC_lift (wpAny_load ho ?_)
  obtain ⟨c, oc, vs, tq, hc, hoc, hdc, hq⟩ := hcd
  simp only [hd', callFunction, hco, hgen, hbody, hc]
  rw [hc] at h
  refine wpC_lift (m := field (.ref c) 1) (wpAny_field hoc hdc hq (wpC_bind (wpC_pure ?_)))
  exact wpC_lift (wpAny_mono h (fun binds s₁ h₁ => wpC_lift (wpAny_mono h₁ (fun env s₂ h₂ => wpC_lift (wpAny_enterFrame h₂.1 hroom
    (wpC_pure (And.intro rfl (And.intro rfl h₂.2))))) fun _ _ h' => h')) fun _ _ h' => h')
theorem codeC_call_builtin {id : String} {args : Args} {b : Builtin} (hq : plainId id = true) (hcl : cleanCode (.builtin id args) = true) (hb : entryFor table id = some b)
    (h : wpAny (model prog w) A.in1 (checkBuiltinCall id args) (fun _ s₁ => wpC (model prog w) A.in1 (b args)
      (fun fin s' => match fin with | .done f => R (.ok f) s' | .again c' => c'.quiet = true ∧ cleanCode c' = true ∧ codeC (model prog w) A c' R s') (fun e s' => R (.error e) s') s₁)
      (fun e s' => R (.error e) s') s) : codeC (model prog w) A (.call (.builtin id) args) R s := by
  refine codeC_of_tree ?_
  show wpC _ A.in1 (do checkBuiltinCall id args; again (.builtin id args)) _ _ s
  refine wpC_lift (wpAny_mono h (fun _ s₁ h₁ => wpC_pure ⟨plainId_quiet hq args, hcl, codeC_of_tree ?_⟩) fun _ _ h' => h')
  rw [Around.under_plainId hq args]
  show wpC _ _ (match entryFor table id with | some b => b args | none => unsupported ((withoutEnding? id "#data").getD id)) _ _ s₁
  rw [hb]; exact h₁
theorem codeC_builtin {id : String} {args : Args} {b : Builtin} (hb : entryFor table id = some b)
    (h : wpC (model prog w) (A.under (.builtin id args)) (b args)
      (fun fin s' => match fin with | .done f => R (.ok f) s' | .again c' => c'.quiet = true ∧ cleanCode c' = true ∧ codeC (model prog w) A c' R s') (fun e s' => R (.error e) s') s) :
    codeC (model prog w) A (.builtin id args) R s := by
  refine codeC_of_tree ?_
  show wpC _ _ (match entryFor table id with | some b => b args | none => unsupported ((withoutEnding? id "#data").getD id)) _ _ s
  rw [hb]; exact h
theorem wpC_no {α : Type} {M : Model} {c : Prop} [Decidable c] {x y : Sem α} {Q : α → Shared → Prop} (hc : ¬ c) (h : wpC M A y Q E s) : wpC M A (if c then x else y) Q E s := by
  rw [if_neg hc]; exact h
theorem wpC_yes {α : Type} {M : Model} {c : Prop} [Decidable c] {x y : Sem α} {Q : α → Shared → Prop} (hc : c) (h : wpC M A x Q E s) : wpC M A (if c then x else y) Q E s := by
  rw [if_pos hc]; exact h
/-- try with handlers, its body on a clean stack, what follows a raise anywhere -/
theorem wpC_Try_except {body orelse : List Stmt} {h₀ : ExceptHandler} {hs : List ExceptHandler} {pos : Pos} {Q : Flow → Shared → Prop}
    (h : wpC (model prog w) A (execs body env) (fun f s₁ => match f with | .next => wpC (model prog w) A (execs orelse env) Q E s₁ | f => Q f s₁)
      (fun e s₁ => wpAny (model prog w) A (noteFrame e env) (fun _ s₂ => wpAny (model prog w) A (setFlight e none) (fun _ s₃ => wpAny (model prog w) A (handleBy e env (h₀ :: hs)) Q E s₃) E s₂) E s₁) s) :
    wpC (model prog w) A (exec (.Try body (h₀ :: hs) orelse [] pos) env) Q E s := by
  rw [arm_exec_Try]
  refine wpC_standAt ?_
  unfold tryStmt
  simp only [List.isEmpty_nil, if_true, List.isEmpty_cons, Bool.false_eq_true, if_false, Bool.false_and]
  refine wpC_bind (wpC_attempt (wpC_mono h (fun f s₁ h₁ => ?_) fun e s₁ h₁ => ?_))
  · cases f <;> first | exact h₁ | exact wpC_pure h₁
  · exact wpC_lift (wpAny_mono h₁ (fun _ s₂ h₂ => wpC_lift (wpAny_mono h₂ (fun _ s₃ h₃ => wpC_of h₃) fun _ _ x => x)) fun _ _ x => x)
end
end Mine
end
section
open PySem PySem.W PyProof.Rows
namespace Mine
open PySem.Sem (wp)
open PySem.Calls

theorem caller_clean : Clean ⟨.builtin "claim.caller" {}, none, none, [], none⟩ := ⟨by decide +kernel, fun _ h => nomatch h⟩

theorem callFrom_of_specC {c : ClaimW} {tree : List Value → Sem Fin} {w : World} {s : Shared} {free : Addr → Prop} {gens : Prop} {kept : Heap → Prop} (hz : s.asleep) (hgens : s.gens = #[])
    (hspec : ∀ args, c.pre args = true → WData.layableAll args = true →
      ∀ ord : List DictEntry → List DictEntry, (∀ l, (ord l).Perm l) →
      ∃ vs s₁, layAllW c.records (classAt s.heap) w.params ord args s = some (vs, s₁) ∧
        wpC (model c.prog w) callerA (tree vs) (fun fin s' => ∃ f, fin = .done f ∧ (c.Ends s args vs s₁ (.ok f) s' ∧ s'.os = s.os ∧ AllBare s'.gens ∧ kept s'.heap))
          (fun e s' => c.Ends s args vs s₁ (.error e) s' ∧ s'.os = s.os ∧ AllBare s'.gens ∧ kept s'.heap) s₁) :
    c.CallFrom (fun vs => ⟨tree vs, .builtin "claim.caller" {}, default, []⟩) w free gens kept s := by
  intro args hpre hlay ord hord
  obtain ⟨vs, s₁, hlaid, hcode⟩ := hspec args hpre hlay ord hord
  have hal := layAllW_rest _ _ _ hlaid
  obtain ⟨k, r, s'', s', hsched, hrun, hfo, hcase, hos, hkp⟩ := wp_halts_full (M := model c.prog w) (t := tree vs) (s := s₁) (R := fun r s' => c.Ends s args vs s₁ r s' ∧ s'.os = s.os ∧ kept s'.heap)
    (Shared.asleep_of_life hal.2.2.2 hz)
    (Sem.wp_mono _ _ _ (fun fin p' s' h' => by
        obtain ⟨f, rfl, h1, h2, h3, h4⟩ := h'
        exact ⟨⟨h1, h2, h4⟩, leftWithCleanup_false_of_bare h3⟩) (fun e p' s' h' => ⟨⟨h'.1, h'.2.1, h'.2.2.2⟩, leftWithCleanup_false_of_bare h'.2.2.1⟩) default _ (hcode _ default caller_in caller_clean))
  obtain ⟨eh, _, _, eo, _⟩ := Shared.forget_eq hfo
  have hcase := hcase.congr eh
  have hkp : kept s'.heap := by rw [eh]; exact hkp
  rw [← eo] at hos
  have hlife : s'.heap.life = s.heap.life := (runN_life _ _ _ hrun).trans hal.2.2.2
  refine ⟨vs, s₁, hlaid, k, _, s', hsched, ?_, (fun _ i x hx => by rw [hgens] at hx; simp at hx), hkp, by rw [hlife], Shared.rest_eq hos⟩
  rcases hcase with ⟨v, rfl, d1, d2, d3, d4, d5⟩ | ⟨e, ob, cls, rfl, d1, d2, d3, d4, d5⟩
  · exact .inl ⟨v, rfl, d1, d2, d3, fun b o y _ => d4 b o y, d5⟩
  · exact .inr ⟨e, ob, cls, rfl, d1, d2, d3, d4, fun b o y _ => d5 b o y⟩

/-- what is asked of the walk: as the library's, on a clean stack alone -/
abbrev WalkC (q : Program) (loose : List Str) (XP : (Str → Option Value) → Heap → Prop) (YP : World → Heap → Prop) (r : RowW) (d : DefRec) (kwd : List (Str × Expr)) : Prop :=
  ∀ (w : World) (s₀ s₁ : Shared) (mg mb : Str → Option Value), Ground q loose r.records XP w s₀ mg mb s₁.heap → YP w s₁.heap → ∀ (a : Addr) (o : Obj) (pm cd doc dV kV : Value), s₁.heap.get? a = some o →
    o.data = .func { docDef d.name d.params d.body d.scope pm cd doc with defaults := dV, kwdefaults := kV } → s₁.heap.CodeRec cd d.name → Dflts mg s₁.heap d.params kwd dV kV → mg d.name = some (.ref a) → s₁.gens = #[] →
    ∀ (args : List WData) (vals : List Value) (as : List Addr), r.claim.pre args = true → WData.layableAll args = true → ReadsAllW r.records (classAt s₀.heap) s₁.heap vals args as → WellAll w.params s₁.heap vals args → (∀ a ∈ as, (a == sysModules) = false) →
      wpC (model r.prog w) callerA (PySem.call (.ref a) vals) (fun v s' => GoodWG r.claim (classAt s₀.heap) (ExcName.means s₀.heap) args s₁ (.ok (.ret v)) s')
        (fun e s' => GoodWG r.claim (classAt s₀.heap) (ExcName.means s₀.heap) args s₁ (.error e) s') s₁

end Mine
namespace Mine.PySem.W
open PySem.Sem (wp)
open PySem.Calls
/-- the library's head with the walk on a clean stack -/
theorem holds_open {r : OpenRow} {q : Program} {loose : List Str} {Xt : Shared → Bool} {XP : (Str → Option Value) → Heap → Prop} {α : Type} {Yf : Shared → α} {Ya : World → α} {YP : World → Heap → Prop} {d : DefRec} {kwd : List (Str × Expr)} {N : Nat}
    (left : LeftO r.prog q loose Xt Yf Ya N) (hY : ∀ w s, Yf s = Ya w → YP w s.heap) (hYk : ∀ w h h', YP w h → (∀ b o, h.get? b = some o → h'.get? b = some o) → YP w h')
    (hX : ∀ s, Xt s = true → XP (s.heap.nsMap mainGlobals) s.heap) (hXk : ∀ mg h h', XP mg h → (∀ b o, h.get? b = some o → h'.get? b = some o) → XP mg h')
    (hdef : defOf q r.name = some (d, kwd)) (hp : r.prog.theDef r.name = some (d.params, d.body, d.scope)) (hk : kwWritten? d.params.kwonlyargs d.params.kw_defaults = some kwd) (hRf : ∀ s, Xt s = true → RecFacts r.records s.heap) (hwr : (!r.writes || r.records.isEmpty) = true)
    (k1 : r.wellSaid = true) (ok : (chainsOk q && opensWell r.prog && (frees r.toRowW && r.within.isEmpty)) = true) (hb : r.prog.bare) (hw : r.toRowW.promised)
    (call : WalkC q loose XP YP r.toRowW d kwd) : r.Holds := by
  obtain ⟨ok, k5⟩ := Bool.and_eq_true_iff.mp ok
  obtain ⟨hch, o1⟩ := Bool.and_eq_true_iff.mp ok
  obtain ⟨k5, k6⟩ := Bool.and_eq_true_iff.mp k5
  obtain ⟨hsame, hu, ha, hap, hm⟩ := frees_parts k5
  refine ⟨k1, hw, ⟨hb, o1, by show r.makers.map _ = []; rw [hm]; rfl⟩, hw.witness, fun w => ⟨(left.behind hX hch w).1, fun s' hs' => ?_⟩⟩
  obtain ⟨s₀, hf, hg0, s, hT, hz, hgens, hg, G00, y⟩ := (left.behind (XP := fun mg h => XP mg h ∧ RecFacts r.records h) (fun s hs => ⟨hX s hs, hRf s hs⟩) hch w).2 s' hs'
  have G0 : Ground q loose [] XP w s (s.heap.nsMap mainGlobals) (s.heap.nsMap builtinsNs) s.heap := ⟨G00.T, G00.B, G00.D, G00.TE, G00.TD, G00.W, G00.X.1, G00.cls, G00.has, G00.apart, G00.once, G00.K⟩
  have RF := G00.X.2
  have pin : ∀ n ∈ (if r.pinned then [r.name] else []), isTheDefsW r.prog s.heap n := fun n hn => by
    obtain rfl : n = r.name := by split at hn <;> simp_all
    exact pinned_of_view hg G0 hdef hp hk
  refine ⟨s₀, hf, hg0, s, hT, pin, RF.1, RF.2.1, ?_⟩
  have hgens : s.gens = #[] := Array.eq_empty_of_size_eq_zero (beq_iff_eq.mp hgens)
  have G : Ground q loose r.records XP w s _ _ s.heap := RF.ground G0
  refine callFrom_of_specC (c := r.toRowW.claim) hz hgens fun args hpre hlay ord hord => ?_
  obtain ⟨⟨vs, s₁⟩, hlaid⟩ := Option.isSome_iff_exists.mp (layAllW_isSome (P := w.params) (ord := ord) G.has args r.args s (pre_splitW hpre).1)
  have keeps := layAllW_keeps _ _ _ hlaid
  have hal := layAllW_rest _ _ _ hlaid
  obtain ⟨as, hrd, hin, hold⟩ := reads_layAllW hord _ _ _ hlaid hlay s₁.heap (fun _ _ e => e)
  have L : Laid r.records w s s₁ args vs as := ⟨⟨ord, hord, hlaid⟩, hrd, hin, hold, keeps, hal.1.trans hgens, hal.2.2.1⟩
  have G₁ := G.keeps hXk keeps
  obtain ⟨a, o, pm, cd, doc, dV, kV, h1, h2, h3, h4, h5⟩ := G₁.fn hdef
  have h := call w s s₁ _ _ G₁ (hYk _ _ _ (hY w s y) keeps) a o pm cd doc dV kV h2 h3 h4 h5 (defOf_name hdef ▸ h1) L.gens args vs as hpre hlay L.reads L.well (L.low G.low)
  have hi := ident_freeW hu ha hap
  have hwi : r.toRowW.claim.within = [] := List.isEmpty_iff.mp k6
  refine ⟨vs, s₁, hlaid, ?_⟩
  show wpC _ callerA (do match ← nsGet mainNs r.name with
      | some f => do ret (← PySem.call f vs)
      | none => unsupported "claim.caller:no-such-global") _ _ s₁
  refine wpC_lift (wpAny_nsGet G₁.T.g ?_)
  rw [h1]
  exact wpC_bind (wpC_mono h (fun v s' g => wpC_pure ⟨_, rfl, have z := g.laid (c := r.toRowW.claim) hsame hwi hi L; ⟨z.1, z.2.1, z.2.2, fun q => ⟨namesKept_of hT hg r.keeps keeps g.2.1.old, noTable hwr q⟩⟩⟩)
    fun e s' g => have z := g.laid (c := r.toRowW.claim) hsame hwi hi L; ⟨z.1, z.2.1, z.2.2, fun q => ⟨namesKept_of hT hg r.keeps keeps g.2.1.old, noTable hwr q⟩⟩)

end Mine.PySem.W
namespace Mine
set_option maxRecDepth 100000 in
set_option maxHeartbeats 8000000 in
open_top hd for PySem.Challenge.rw_nc0004_01
end Mine
end
section
open PySem PySem.W PyProof.Rows
set_option maxRecDepth 100000
namespace Mine
open PySem.Sem (wp)
open PySem.Calls PySem.Builtin

/-- a bytearray as the law makes it -/
def baObj (b : Array UInt8) : Obj := { cls := .type "bytearray", data := .bytearray b }

namespace F
theorem owner_ba : Manifest.owners.lookup (String.ofList ['y', 'a', 'r', 'r', 'a', 'e', 't', 'y', 'b'].reverse) = some Manifest.sig_bytearray := by kernel_rfl
theorem slot_len : Slot "bytearray" "__len__" "bytearray.__len__" :=
  .of (owner := "bytearray") (n := "__len__") (by rw [typeLookup_type, builtinLookup_eq_fast]; kernel_rfl) (by decide +kernel) (by decide +kernel) (by decide +kernel) (by first | exact .inl (by decide +kernel) | exact .inr (by decide +kernel)) (by rw [isSubtype_type]; kernel_rfl)
theorem entry_len : entryFor table "bytearray.__len__" = some Builtin.«bytearray.__len__» := entryFor_of_tree (by kernel_rfl)
theorem args_len (a : Value) : argsOk "bytearray.__len__" ⟨[a], []⟩ := by unfold argsOk; kernel_rfl
theorem slot_getitem : Slot "bytearray" "__getitem__" "bytearray.__getitem__" :=
  .of (owner := "bytearray") (n := "__getitem__") (by rw [typeLookup_type, builtinLookup_eq_fast]; kernel_rfl) (by decide +kernel) (by decide +kernel) (by decide +kernel) (by first | exact .inl (by decide +kernel) | exact .inr (by decide +kernel)) (by rw [isSubtype_type]; kernel_rfl)
theorem entry_getitem : entryFor table "bytearray.__getitem__" = some Builtin.«bytearray.__getitem__» := entryFor_of_tree (by kernel_rfl)
theorem args_getitem (a b : Value) : argsOk "bytearray.__getitem__" ⟨[a, b], []⟩ := by unfold argsOk; kernel_rfl
theorem slot_append : Slot "bytearray" "append" "bytearray.append" :=
  .of (owner := "bytearray") (n := "append") (by rw [typeLookup_type, builtinLookup_eq_fast]; kernel_rfl) (by decide +kernel) (by decide +kernel) (by decide +kernel) (by first | exact .inl (by decide +kernel) | exact .inr (by decide +kernel)) (by rw [isSubtype_type]; kernel_rfl)
theorem entry_append : entryFor table "bytearray.append" = some Builtin.«bytearray.append» := entryFor_of_tree (by kernel_rfl)
theorem args_append (a b : Value) : argsOk "bytearray.append" ⟨[a, b], []⟩ := by unfold argsOk; kernel_rfl
theorem slot_iadd : Slot "bytearray" "__iadd__" "bytearray.__iadd__" :=
  .of (owner := "bytearray") (n := "__iadd__") (by rw [typeLookup_type, builtinLookup_eq_fast]; kernel_rfl) (by decide +kernel) (by decide +kernel) (by decide +kernel) (by first | exact .inl (by decide +kernel) | exact .inr (by decide +kernel)) (by rw [isSubtype_type]; kernel_rfl)
theorem entry_iadd : entryFor table "bytearray.__iadd__" = some Builtin.«bytearray.__iadd__» := entryFor_of_tree (by kernel_rfl)
theorem args_iadd (a b : Value) : argsOk "bytearray.__iadd__" ⟨[a, b], []⟩ := by unfold argsOk; kernel_rfl
theorem slot_init : Slot "bytearray" "__init__" "bytearray.__init__" :=
  .of (owner := "bytearray") (n := "__init__") (by rw [typeLookup_type, builtinLookup_eq_fast]; kernel_rfl) (by decide +kernel) (by decide +kernel) (by decide +kernel) (by first | exact .inl (by decide +kernel) | exact .inr (by decide +kernel)) (by rw [isSubtype_type]; kernel_rfl)
theorem entry_init : entryFor table "bytearray.__init__" = some Builtin.«bytearray.__init__» := entryFor_of_tree (by kernel_rfl)
theorem args_init0 (a : Value) : argsOk "bytearray.__init__" ⟨[a], []⟩ := by unfold argsOk; kernel_rfl
theorem args_init1 (a b : Value) : argsOk "bytearray.__init__" ⟨[a, b], []⟩ := by unfold argsOk; kernel_rfl
theorem slot_iter : Slot "bytearray" "__iter__" "bytearray.__iter__" :=
  .of (owner := "bytearray") (n := "__iter__") (by rw [typeLookup_type, builtinLookup_eq_fast]; kernel_rfl) (by decide +kernel) (by decide +kernel) (by decide +kernel) (by first | exact .inl (by decide +kernel) | exact .inr (by decide +kernel)) (by rw [isSubtype_type]; kernel_rfl)
theorem entry_iter : entryFor table "bytearray.__iter__" = some Builtin.«bytearray.__iter__» := entryFor_of_tree (by kernel_rfl)
theorem args_iter (a : Value) : argsOk "bytearray.__iter__" ⟨[a], []⟩ := by unfold argsOk; kernel_rfl
theorem look_contains : typeLookup (.type "bytearray") "__contains__" = pure (some (.builtin "bytearray.__contains__")) := by rw [typeLookup_type, builtinLookup_eq_fast]; kernel_rfl
theorem entry_contains : entryFor table "bytearray.__contains__" = some Builtin.«bytearray.__contains__» := entryFor_of_tree (by kernel_rfl)
theorem look_buffer : typeLookup (.type "bytearray") "__buffer__" = pure (some (.builtin "bytearray.__buffer__")) := by rw [typeLookup_type, builtinLookup_eq_fast]; kernel_rfl
theorem look_release : typeLookup (.type "bytearray") "__release_buffer__" = pure (some (.builtin "bytearray.__release_buffer__")) := by rw [typeLookup_type, builtinLookup_eq_fast]; kernel_rfl
theorem sub_self : isSubtype (.type "bytearray") (.type "bytearray") = pure true := by rw [isSubtype_type]; kernel_rfl
theorem sub_str : isSubtype (.type "bytearray") (.type "str") = pure false := by rw [isSubtype_type]; kernel_rfl
theorem noBytes : typeLookup (.type "bytearray") "__bytes__" = pure none := by rw [typeLookup_type, builtinLookup_eq_fast]; kernel_rfl
theorem noIndex : typeLookup (.type "bytearray") "__index__" = pure none := by rw [typeLookup_type, builtinLookup_eq_fast]; kernel_rfl
end F
theorem ba_typeIs {s : Shared} {a : Addr} {b : Array UInt8} (h : s.heap.get? a = some (baObj b)) : s.TypeIs (.ref a) "bytearray" := ⟨_, h, rfl⟩

section
variable {M : Model} {prog : Program} {w : World} {A : Around} {E : Value → Shared → Prop} {s : Shared} {a : Addr} {b : Array UInt8}
theorem ba_payload {Q : Array UInt8 → Shared → Prop} (h : s.heap.get? a = some (baObj b)) (hQ : Q b s) : wpAny M A (Bytes.payload (.ref a)) Q E s := by
  unfold Bytes.payload Bytes.payload?
  exact wpAny_bind (wpAny_bind (wpAny_load h (wpAny_pure (wpAny_pure hQ))))
theorem ba_len {Q : Value → Shared → Prop} (h : s.heap.get? a = some (baObj b)) (hfit : b.size ≤ 1099511627776) (hQ : Q (.int b.size (s.toks + 1)) { s with toks := s.toks + 1 + 1 }) :
    wpAny (model prog w) A (call (.builtin "len") [.ref a]) Q E s := by
  refine call_function_entry kind_len plain_len PySem.entry_len (args_len1 _) ?_
  unfold Builtin.«len»
  refine wpAny_bind (m := oneArg "len" _) (wpAny_pure ?_)
  refine wpAny_bind (m := callSpecial? (.ref a) (Str.ofString "__len__")) (wpAny_callSpecial?_slot (name := Str.ofString "__len__") (ba_typeIs h) F.slot_len
    (wpAny_call_entry F.slot_len (ba_typeIs h) F.entry_len ?_ (F.args_len _)))
  show wpAny _ _ (do retInt (← Bytes.payload (.ref a)).size) _ _ s
  refine wpAny_bind (ba_payload h ?_)
  refine wpAny_bind (wpAny_mkInt (wpAny_pure ⟨_, rfl, ?_⟩))
  refine wpAny_bind (wpAny_holding (wpAny_pure ?_))
  refine wpAny_bind (wpAny_letGo ?_)
  show wpAny _ _ (if ((b.size : Nat) : Int) < 0 then _ else _) _ _ _
  rw [if_neg (by omega)]
  show wpAny _ _ (if ((b.size : Nat) : Int) ≥ 2 ^ 63 then _ else _) _ _ _
  rw [if_neg (by omega)]
  exact wpAny_bind (wpAny_mkInt (wpAny_pure ⟨_, rfl, hQ⟩))
theorem ba_getItem {i : Int} {u : Tok} {c : UInt8} {Q : Value → Shared → Prop} (h : s.heap.get? a = some (baObj b)) (h0 : 0 ≤ i) (h1 : i < b.size) (hfit : b.size ≤ 1099511627776) (hc : b[i.toNat]? = some c)
    (hQ : Q (.int (c.toNat : Int) s.toks) { s with toks := s.toks + 1 }) : wpAny (model prog w) A (getItem (.ref a) (.int i u)) Q E s := by
  refine wpAny_getItem_slot (ba_typeIs h) (by decide) F.slot_getitem (wpAny_call_entry F.slot_getitem (ba_typeIs h) F.entry_getitem ?_ (F.args_getitem _ _))
  show wpAny _ _ (Bytes.subscript? (.int i u) >>= fun r => _) _ _ s
  refine wpAny_bind ?_
  unfold Bytes.subscript?
  refine wpAny_bind (wpAny_specialOf (T := "int") (typeIs_int _ _ _) PySem.F.slot_int_index.lookup ?_)
  refine wpAny_ite (KBy.ite_no (show ¬ (Option.isNone (some _) = true) from Bool.false_ne_true) ?_)
  refine wpAny_bind (wpAny_of_eq (a := i) rfl ?_)
  refine wpAny_ite (KBy.ite_no ?_ ?_)
  · have : Bytes.fitsIndex i = true := by simp only [Bytes.fitsIndex, Bool.and_eq_true, decide_eq_true_eq]; omega
    rw [this]; exact Bool.false_ne_true
  refine wpAny_pure ?_
  refine wpAny_bind (ba_payload h ?_)
  have e2 : (seqIndex? i b.size).bind (b[·]?) = some c := by
    have h2 : ¬ i < 0 := by omega
    have h3 : i < (b.size : Int) := h1
    rw [show seqIndex? i b.size = some i.toNat from by simp [seqIndex?, h2, h0, h3]]
    exact hc
  rw [e2]
  exact wpAny_bind (wpAny_mkInt (wpAny_pure ⟨_, rfl, hQ⟩))
theorem ba_slice {d : Addr} {l u : Value} {lo hi : Option Int} {Q : Value → Shared → Prop} (h : s.heap.get? a = some (baObj b)) (hd : s.heap.IsSliceOf d l u .none) (hl : IsPart l lo) (hu : IsPart u hi) (hz : (KBy.picked b lo hi).size ≤ sizeLine)
    (hQ : Q (.ref s.heap.objs.size) { s with heap := s.heap.push (baObj (KBy.picked b lo hi)) }) : wpAny (model prog w) A (getItem (.ref a) (.ref d)) Q E s := by
  refine wpAny_getItem_slot (ba_typeIs h) (by decide) F.slot_getitem (wpAny_call_entry F.slot_getitem (ba_typeIs h) F.entry_getitem ?_ (F.args_getitem _ _))
  obtain ⟨o, ho, hc, hdt⟩ := hd
  have hT : s.TypeIs (.ref d) "slice" := ⟨o, ho, hc⟩
  show wpAny _ _ (Bytes.subscript? (.ref d) >>= fun r => _) _ _ s
  refine wpAny_bind ?_
  unfold Bytes.subscript?
  refine wpAny_bind (wpAny_specialOf hT PySem.slice_no_index (wpAny_pure ?_))
  refine wpAny_bind (wpAny_typeOf hT ?_)
  show wpAny _ _ (Bytes.sliceParts (.ref d) >>= fun r => _) _ _ s
  refine wpAny_bind ?_
  unfold Bytes.sliceParts
  refine wpAny_bind (wpAny_field (x := .none) ho hdt rfl ?_)
  kby_none
  refine wpAny_ite (KBy.ite_no (show ¬ ((Value.none == rawInt 0) = true) from Bool.false_ne_true) ?_)
  refine wpAny_bind (wpAny_field (x := l) ho hdt rfl ?_)
  have go : wpAny (model prog w) A.in1 (sliceIndices (rawPart lo) (rawPart hi) (rawPart none) b.size) (fun r s' => r = sliceBounds lo hi none b.size ∧ s' = s) (fun _ _ => False) s :=
    wpAny_of_eq (sliceIndices_raw lo hi none b.size (fun e => nomatch e)) ⟨rfl, rfl⟩
  cases hl <;> cases hu <;> (first
    | (kby_none; (refine wpAny_bind (wpAny_field (x := .none) ho hdt rfl ?_)); kby_none)
    | (kby_none; (refine wpAny_bind (wpAny_field (x := .int _ _) ho hdt rfl ?_)); kby_int)
    | (kby_int; (refine wpAny_bind (wpAny_field (x := .none) ho hdt rfl ?_)); kby_none)
    | (kby_int; (refine wpAny_bind (wpAny_field (x := .int _ _) ho hdt rfl ?_)); kby_int)) <;> refine wpAny_pure ?_
  all_goals
    refine wpAny_bind (ba_payload h ?_)
    refine wpAny_bind (wpAny_mono go (fun r s' hr => ?_) fun _ _ e => e.elim)
    obtain ⟨hr1, hr2⟩ := hr
    subst hr1 hr2
    refine wpAny_bind ?_
    unfold Bytes.newBytearray
    exact wpAny_newObj_type (wpAny_pure ⟨_, rfl, hQ⟩) hz
end
end Mine
end
section
open PySem PySem.W PyProof.Rows
set_option maxRecDepth 100000
namespace Mine
open PySem.Sem (wp)
open PySem.Calls PySem.Builtin
namespace F
theorem slotG_contains : SlotG "bytearray" "__contains__" "bytearray.__contains__" :=
  .of (owner := "bytearray") (n := "__contains__") (by rw [typeLookup_type, builtinLookup_eq_fast]; kernel_rfl) (by decide +kernel) (by decide +kernel) (by decide +kernel) (by first | exact .inl (by decide +kernel) | exact .inr (by decide +kernel)) (by rw [isSubtype_type]; kernel_rfl)
theorem args_contains (a b : Value) : argsOk "bytearray.__contains__" ⟨[a, b], []⟩ := by unfold argsOk; kernel_rfl
theorem clean_append {args : Args} : cleanCode (.builtin "bytearray.append" args) = true := by
  show (!(Bytes.decodersThatHold.contains "bytearray.append")) = true
  decide +kernel
theorem clean_iadd {args : Args} : cleanCode (.builtin "bytearray.__iadd__" args) = true := by
  show (!(Bytes.decodersThatHold.contains "bytearray.__iadd__")) = true
  decide +kernel
theorem clean_init {args : Args} : cleanCode (.builtin "bytearray.__init__" args) = true := by
  show (!(Bytes.decodersThatHold.contains "bytearray.__init__")) = true
  decide +kernel
theorem clean_typecall {args : Args} : cleanCode (.builtin "type.__call__" args) = true := by
  show (!(Bytes.decodersThatHold.contains "type.__call__")) = true
  decide +kernel
theorem quiet_contains (args : Args) : (Code.builtin "bytearray.__contains__" args).quiet = true := Code.quiet_builtin _ (by decide +kernel)
end F
section
variable {M : Model} {prog : Program} {w : World} {A : Around} {E : Value → Shared → Prop} {s : Shared} {a : Addr} {b : Array UInt8}
theorem ba_ownSlot_buffer {Q : Bool → Shared → Prop} (h : s.heap.get? a = some (baObj b)) (hQ : Q true s) : wpAny M A (Bytes.slotIsOwn (.ref a) "__buffer__") Q E s := by
  unfold Bytes.slotIsOwn
  refine wpAny_bind (wpAny_specialOf (ba_typeIs h) F.look_buffer ?_)
  dsimp only
  split
  · rename_i hx
    exact absurd hx (by decide +kernel)
  · have key : ∀ x : String, x = "bytearray" → wpAny M A (isInstance (.ref a) (.type x)) Q E s := fun x hx => by rw [hx]; exact wpAny_isInstance (ba_typeIs h) F.sub_self hQ
    exact key _ (by decide +kernel)
theorem ba_ownRelease {Q : Bool → Shared → Prop} (h : s.heap.get? a = some (baObj b)) (hQ : Q false s) : wpAny M A (Bytes.ownRelease (.ref a)) Q E s := by
  unfold Bytes.ownRelease
  refine wpAny_bind ?_
  unfold Bytes.slotIsOwn
  refine wpAny_bind (wpAny_specialOf (ba_typeIs h) F.look_release ?_)
  dsimp only
  split
  · rename_i hx
    exact absurd hx (by decide +kernel)
  · have key : ∀ x : String, x = "bytearray" → wpAny M A (isInstance (.ref a) (.type x)) (fun a s' => wpAny M A (pure !a) Q E s') E s := fun x hx => by rw [hx]; exact wpAny_isInstance (ba_typeIs h) F.sub_self (wpAny_pure hQ)
    exact key _ (by decide +kernel)
theorem ba_buffer {id : String} {full : Bool} {Q : Option (Array UInt8) → Shared → Prop} (h : s.heap.get? a = some (baObj b)) (hQ : Q (some b) s) : wpAny M A (Bytes.buffer? id (.ref a) full) Q E s := by
  unfold Bytes.buffer?
  refine wpAny_bind (wpAny_specialOf (ba_typeIs h) F.look_buffer ?_)
  dsimp only
  refine wpAny_bind (ba_ownSlot_buffer h ?_)
  refine wpAny_ite (KBy.ite_no Bool.false_ne_true ?_)
  refine wpAny_bind (wpAny_specialOf (ba_typeIs h) F.look_buffer ?_)
  refine wpAny_bind (ba_ownRelease h ?_)
  refine wpAny_ite (KBy.ite_no Bool.false_ne_true ?_)
  exact wpAny_bind (ba_payload h (wpAny_pure hQ))
theorem ba_contains0 {t : Tok} {Q : Value → Shared → Prop} (h : s.heap.get? a = some (baObj b)) (hQ : Q (.bool (b.contains 0)) s) : wpAny (model prog w) A (compareOp .In (.int 0 t) (.ref a)) Q E s := by
  show wpAny _ A (do return .bool (← contains (.ref a) (.int 0 t))) Q E s
  refine wpAny_bind ?_
  unfold contains
  refine wpAny_holding ?_
  rw [stdlibNamesSay?_ref]
  refine wpAny_bind (wpAny_specialOf (ba_typeIs h) F.look_contains ?_)
  show wpAny _ A (if (some (Value.builtin "bytearray.__contains__") == some Value.none) = true then _ else _) _ E s
  rw [if_neg (by simp)]
  refine wpAny_bind (wpAny_callSpecialUnlessNone?_slotG (name := Str.ofString "__contains__") (ba_typeIs h) F.slotG_contains ?_)
  refine wpAny_call (codeAny_call_builtin_at (F.quiet_contains _) F.entry_contains (F.slotG_contains.check _ _ _ _ _ _ _ _ (ba_typeIs h) (F.args_contains _ _) ?_))
  show wpAny _ _ (Bytes.containsIn "bytearray.__contains__" (.ref a) (.int 0 t) >>= fun r => ret (.bool r)) _ _ s
  refine wpAny_bind ?_
  unfold Bytes.containsIn
  refine wpAny_bind (wpAny_attempt (wpAny_of_eq (a := (0 : Int)) rfl ?_))
  refine wpAny_bind (ba_buffer h ?_)
  dsimp only
  refine wpAny_ite (KBy.ite_no (by decide) ?_)
  refine wpAny_pure (wpAny_pure ?_)
  exact wpAny_truthy_bool (wpAny_pure hQ)
theorem by_contains0 {t u : Tok} {Q : Value → Shared → Prop} (hQ : Q (.bool (b.contains 0)) s) : wpAny (model prog w) A (compareOp .In (.int 0 t) (.bytes b u)) Q E s := by
  show wpAny _ A (do return .bool (← contains (.bytes b u) (.int 0 t))) Q E s
  refine wpAny_bind (wpAny_contains_slot (typeIs_bytes _ _ _) FB.slot_bytes_contains (wpAny_call_entry FB.slot_bytes_contains (typeIs_bytes _ _ _) FB.entry_bytes_contains ?_ (FB.args_bytes_contains_2 _ _)))
  show wpAny _ _ (Bytes.containsIn "bytes.__contains__" (.bytes b u) (.int 0 t) >>= fun r => ret (.bool r)) _ _ s
  refine wpAny_bind ?_
  unfold Bytes.containsIn
  refine wpAny_bind (wpAny_attempt (wpAny_of_eq (a := (0 : Int)) rfl ?_))
  refine wpAny_bind (wpAny_of_eq KBy.buffer_eq ?_)
  dsimp only
  refine wpAny_ite (KBy.ite_no (by decide) ?_)
  exact wpAny_pure (wpAny_pure ⟨_, rfl, wpAny_truthy_bool (wpAny_pure hQ)⟩)
end
section
variable {M : Model} {prog : Program} {w : World} {A : Around} {E : Value → Shared → Prop} {s : Shared} {a : Addr} {b : Array UInt8}
theorem ba_write {f : Array UInt8 → Array UInt8} {Q : Unit → Shared → Prop} (h : s.heap.get? a = some (baObj b)) (hz : (f b).size ≤ sizeLine)
    (hQ : ∀ h', h'.get? a = some (baObj (f b)) → Heap.SameBut a s.heap h' → Q () { s with heap := h' }) : wpAny M A (Bytes.write (.ref a) f) Q E s := by
  show wpAny M A (updateBytearray a f) Q E s
  unfold updateBytearray
  refine wpAny_bind (wpAny_load h ?_)
  show wpAny M A (update a (Obj.mapBytearray f) >>= fun _ => lookBehind a) Q E s
  refine wpAny_bind (wpAny_update h ?_)
  have h2 : (s.heap.update a (Obj.mapBytearray f)).get? a = some (baObj (f b)) := Heap.get?_update_self (Obj.mapBytearray f) h rfl
  refine wpAny_lookBehind h2 ?_ (hQ _ h2 (Heap.SameBut.update ..))
  show (if (f b).size > sizeLine then some "bytearray:memory" else none) = none
  rw [if_neg (Nat.not_lt.mpr hz)]
/-- append an octet -/
theorem ba_append {i : Int} {t : Tok} {Q : Value → Shared → Prop} (hg : A.guards = some []) (h : s.heap.get? a = some (baObj b)) (h0 : 0 ≤ i) (h1 : i < 256) (hz : b.size < sizeLine)
    (hQ : ∀ h', h'.get? a = some (baObj (b.push i.toNat.toUInt8)) → Heap.SameBut a s.heap h' → Q .none { s with heap := h' }) : wpC (model prog w) A (call (.builtin "bytearray.append") [.ref a, .int i t]) Q E s := by
  refine wpC_call (codeC_call_builtin F.slot_append.plain F.clean_append F.entry_append (F.slot_append.check _ _ _ _ _ _ _ _ (ba_typeIs h) (F.args_append _ _) ?_))
  unfold Builtin.«bytearray.append»
  refine wpC_lift (m := selfAndOne "bytearray.append" _) (wpAny_pure ?_)
  dsimp only
  refine wpC_lift ?_
  unfold Bytes.byteValue
  refine wpAny_bind (wpAny_of_eq (a := i) rfl ?_)
  refine wpAny_ite (KBy.ite_no (by simp only [Bool.or_eq_true, decide_eq_true_eq]; omega) ?_)
  refine wpAny_pure ?_
  refine wpC_bind (wpC_checkResize hg h rfl ?_)
  refine wpC_lift (ba_write h (by rw [Array.size_push]; omega) fun h' e hs => ?_)
  exact wpC_pure (hQ h' e hs)
end
end Mine
end
section
open PySem PySem.W PyProof.Rows
set_option maxRecDepth 100000
namespace Mine
open PySem.Sem (wp)
open PySem.Calls PySem.Builtin
namespace F
theorem seq_iadd : isSeqSlot (some (.builtin "bytearray.__iadd__")) = true := by decide +kernel
theorem look_add : typeLookup (.type "bytearray") (dunder "add") = pure (some (.builtin "bytearray.__add__")) := by rw [typeLookup_type, builtinLookup_eq_fast]; kernel_rfl
theorem look_radd : typeLookup (.type "bytearray") (dunderR "add") = pure none := by rw [typeLookup_type, builtinLookup_eq_fast]; kernel_rfl
theorem noFill_add : fillsNumberSlot (.type "bytearray") "add" = pure false := PySem.fillsNumberSlot_seq (id := "bytearray.__add__") (r := none) look_add (by decide +kernel) look_radd rfl
theorem look_iadd : typeLookup (.type "bytearray") (dunderI "add") = pure (some (.builtin "bytearray.__iadd__")) := by rw [typeLookup_type, builtinLookup_eq_fast]; kernel_rfl
theorem noFillI : fillsInplaceSlot (.type "bytearray") "add" (Operator.Add == .Add) = pure false := by
  unfold fillsInplaceSlot
  show (typeLookup (.type "bytearray") (dunderI "add") >>= fun fi => pure (fi.isSome && !isSeqSlot fi)) = pure false
  rw [look_iadd]
  show (pure (_ && !isSeqSlot (some (.builtin "bytearray.__iadd__"))) : Sem Bool) = pure false
  rw [seq_iadd]; rfl
theorem seqI : seqSlot? (.type "bytearray") (dunderI "add") = pure (some (.builtin "bytearray.__iadd__")) := PySem.seqSlot_of look_iadd seq_iadd
end F
section
variable {M : Model} {prog : Program} {w : World} {A : Around} {E : Value → Shared → Prop} {s : Shared} {a : Addr} {b c : Array UInt8} {v : Value} {T : String}
/-- what a value of octets is: bytes, or a bytearray of the heap -/
inductive OctV (h : Heap) (c : Array UInt8) : Value → Prop
  | bytes (t : Tok) : OctV h c (.bytes c t)
  | ba {d : Addr} (e : h.get? d = some (baObj c)) : OctV h c (.ref d)
theorem octs_binaryOp1 {Q : Option Value → Shared → Prop} (h : s.heap.get? a = some (baObj b)) (hv : OctV s.heap c v) (hQ : Q none s) : wpAny M A (binaryOp1 "add" (.ref a) v) Q E s := by
  cases hv with
  | ba e => exact wpAny_binaryOp1_none (ba_typeIs h) (ba_typeIs e) F.noFill_add hQ
  | bytes t =>
    simp only [binaryOp1]
    refine wpAny_bind (wpAny_typeOf (ba_typeIs h) (wpAny_bind (wpAny_typeOf (typeIs_bytes s c t) (wpAny_bind (wpAny_of_eq F.noFill_add ?_)))))
    have hne : (Value.type "bytearray" == Value.type "bytes") = false := by decide
    simp only [hne, Bool.false_eq_true, if_false]
    refine wpAny_bind (wpAny_of_eq KBy.noFill_bytes_add ?_)
    simp only [pure_bind, Bool.false_and, Bool.false_eq_true, if_false]
    exact wpAny_pure hQ
theorem octs_take {id : String} {Q : Option (Array UInt8 × Option Value) → Shared → Prop} (hv : OctV s.heap c v) (hQ : Q (some (c, none)) s) : wpAny M A (Bytes.takeBufferQuiet? id v 0) Q E s := by
  unfold Bytes.takeBufferQuiet?
  refine wpAny_bind (wpAny_attempt ?_)
  unfold Bytes.takeBuffer?
  cases hv with
  | bytes t =>
    refine wpAny_bind (wpAny_of_eq (KBy.special_eq KBy.look_buffer) ?_)
    refine wpAny_bind (wpAny_of_eq KBy.own_buffer ?_)
    refine wpAny_ite (KBy.ite_no Bool.false_ne_true ?_)
    refine wpAny_bind (wpAny_of_eq (KBy.special_eq KBy.look_buffer) ?_)
    refine wpAny_bind (wpAny_of_eq (a := some c) ?_ ?_)
    · exact KBy.buffer_eq
    exact wpAny_pure (wpAny_pure hQ)
  | ba e =>
    refine wpAny_bind (wpAny_specialOf (ba_typeIs e) F.look_buffer ?_)
    refine wpAny_bind (ba_ownSlot_buffer e ?_)
    refine wpAny_ite (KBy.ite_no Bool.false_ne_true ?_)
    refine wpAny_bind (wpAny_specialOf (ba_typeIs e) F.look_buffer ?_)
    exact wpAny_bind (ba_buffer e (wpAny_pure (wpAny_pure hQ)))
/-- out += octets -/
theorem ba_iadd {Q : Value → Shared → Prop} (hg : A.guards = some []) (h : s.heap.get? a = some (baObj b)) (hv : OctV s.heap c v) (hne : v ≠ .ref a) (hz : b.size + c.size ≤ sizeLine)
    (hQ : ∀ h', h'.get? a = some (baObj (b ++ c)) → Heap.SameBut a s.heap h' → Q (.ref a) { s with heap := h' }) : wpC (model prog w) A (inplaceOp .Add (.ref a) v) Q E s := by
  unfold inplaceOp
  refine wpC_holding ?_
  refine wpC_lift (wpAny_typeOf (ba_typeIs h) (wpC_lift (wpAny_of_eq F.noFillI ?_)))
  show wpC _ A (if false = true then _ else _) Q E s
  rw [if_neg Bool.false_ne_true]
  refine wpC_lift (octs_binaryOp1 h hv ?_)
  refine wpC_lift (wpAny_of_eq F.seqI ?_)
  refine wpC_lift (wpAny_rule ?_)
  refine wpC_call (codeC_call_builtin F.slot_iadd.plain F.clean_iadd F.entry_iadd (F.slot_iadd.check _ _ _ _ _ _ _ _ (ba_typeIs h) (F.args_iadd _ _) ?_))
  unfold Builtin.«bytearray.__iadd__»
  refine wpC_lift (m := slotArgs "__iadd__" 1 _) (wpAny_pure ?_)
  dsimp only
  refine wpC_lift (octs_take hv ?_)
  dsimp only
  unfold Bytes.thenGiveBack
  dsimp only
  have hsame : Bytes.sameRef (.ref a) v = false := by
    cases hv with
    | bytes t => rfl
    | ba e =>
      rename_i d
      have : a ≠ d := fun q => hne (by rw [q])
      simp [Bytes.sameRef, this]
  have tail : wpC (model prog w) A.in1 (do
      if Bytes.tooLong ((← Bytes.payload (.ref a)).size + c.size) = true then unsupported "bytearray.__iadd__:memory" else pure PUnit.unit
      Bytes.write (.ref a) (· ++ c)
      ret (.ref a)) (fun fin s' => match fin with | .done f => wants Q E (.ok f) s' | .again c' => c'.quiet = true ∧ cleanCode c' = true ∧ codeC (model prog w) A c' (wants Q E) s') (fun e s' => wants Q E (.error e) s') s := by
    refine wpC_lift (ba_payload h ?_)
    rw [show Bytes.tooLong (b.size + c.size) = false from by unfold Bytes.tooLong; exact decide_eq_false (Nat.not_lt.mpr hz)]
    exact wpC_lift (ba_write h (by rw [Array.size_append]; exact hz) fun h' e hs => wpC_pure (hQ h' e hs))
  cases hc : c.isEmpty with
  | true =>
    simp only [Bool.not_true, Bool.false_eq_true, if_false]
    exact tail
  | false =>
    simp only [Bool.not_false, if_true, hsame, Bool.false_eq_true, if_false]
    refine wpC_bind (wpC_checkResize hg h rfl ?_)
    exact tail
end
end Mine
end
section
open PySem PySem.W PyProof.Rows
set_option maxRecDepth 100000
namespace Mine
open PySem.Sem (wp)
open PySem.Calls PySem.Builtin
namespace F
theorem mro_ba : mroOf (.type "bytearray") = pure [.type "bytearray", .type "object"] := by rw [mroOf_type]; kernel_rfl
theorem look_new : typeLookup (.type "bytearray") "__new__" = pure (some (.builtin "bytearray.__new__")) := by rw [typeLookup_type, builtinLookup_eq_fast]; kernel_rfl
theorem called : TypeCalled "bytearray" "bytearray.__new__" "bytearray.__init__" :=
  ⟨by decide +kernel, by decide +kernel, ⟨_, _, mro_ba⟩, madeBy_type mro_ba look_new (by decide +kernel), by decide +kernel, by rw [isSubtype_type]; kernel_rfl, slot_init⟩
theorem typeCall0 : checkTypeCall "bytearray" ⟨[], []⟩ = pure () := by kernel_rfl
theorem typeCall1 (a : Value) : checkTypeCall "bytearray" ⟨[a], []⟩ = pure () := by kernel_rfl
theorem newCall0 : checkBuiltinCall "bytearray.__new__" ⟨[.type "bytearray"], []⟩ = pure () := by kernel_rfl
theorem newCall1 (a : Value) : checkBuiltinCall "bytearray.__new__" ⟨[.type "bytearray", a], []⟩ = pure () := by kernel_rfl
theorem entry_new : entryFor table "bytearray.__new__" = some Builtin.«list.__new__» := entryFor_alias (id' := "list.__new__") (by kernel_rfl) rfl (by decide +kernel) (by kernel_rfl)
theorem plain_new : plainId "bytearray.__new__" = true := by decide +kernel
theorem bind0 : Bytes.bindOptional "bytearray.__init__" "bytearray" ["source", "encoding", "errors"] [] [] = pure [none, none, none] := by kernel_rfl
theorem bind1 (v : Value) : Bytes.bindOptional "bytearray.__init__" "bytearray" ["source", "encoding", "errors"] [v] [] = pure [some v, none, none] := by kernel_rfl
end F
set_option maxRecDepth 1000000 in
set_option maxHeartbeats 4000000 in
theorem owner_ba_new : ("bytearray.__new__".splitOn ".__new__").headD "" = "bytearray" := by simp +decide [String.splitOn, String.splitOnAux]

section
variable {M : Model} {prog : Program} {w : World} {A : Around} {E : Value → Shared → Prop} {s : Shared} {a : Addr} {b c : Array UInt8} {v : Value} {T : String}
theorem code_ba_new {args : List Value} {Q₁ : Value → Shared → Prop} (hck : checkBuiltinCall "bytearray.__new__" ⟨.type "bytearray" :: args, []⟩ = pure ())
    (h : Q₁ (.ref s.heap.objs.size) { s with heap := s.heap.push (baObj #[]) }) :
    codeAny (model prog w) A (.call (.builtin "bytearray.__new__") ⟨.type "bytearray" :: args, []⟩) (wants Q₁ E) s := by
  refine codeAny_of_tree ?_
  show wpAny _ A.in1 (do checkBuiltinCall "bytearray.__new__" ⟨.type "bytearray" :: args, []⟩; again (.builtin "bytearray.__new__" ⟨.type "bytearray" :: args, []⟩)) _ _ s
  refine wpAny_bind (wpAny_of_eq hck (wpAny_pure ⟨plainId_quiet F.plain_new _, codeAny_builtin_stack F.entry_new rfl fun p st => ?_⟩))
  rw [Around.under_plainId F.plain_new _]
  have hown := owner_ba_new
  dsimp only
  rw [hown]
  refine wpAny_bind (wpAny_of_eq (a := true) rfl ?_)
  refine wpAny_ite (KBy.ite_no Bool.false_ne_true ?_)
  refine wpAny_bind (wpAny_of_eq F.sub_self ?_)
  refine wpAny_ite (KBy.ite_no Bool.false_ne_true ?_)
  refine wpAny_bind (wpAny_of_eq (a := Data.bytearray #[]) rfl ?_)
  refine wpAny_ite (KBc.ite_yes rfl ?_)
  refine wpAny_bind (wpAny_newObj_type (wpAny_pure h) (Nat.zero_le _))
/-- a call of bytearray: its __init__ on a clean stack -/
theorem ba_typeCall {args : List Value} {Q : Value → Shared → Prop} (hct : checkTypeCall "bytearray" ⟨args, []⟩ = pure ()) (hck : checkBuiltinCall "bytearray.__new__" ⟨.type "bytearray" :: args, []⟩ = pure ())
    (hok : ∀ o, argsOk "bytearray.__init__" ⟨o :: args, []⟩)
    (hi : wpC (model prog w) A.in1.in1 (Builtin.«bytearray.__init__» ⟨.ref s.heap.objs.size :: args, []⟩)
      (fun fin s' => fin = .done (.ret .none) ∧ Q (.ref s.heap.objs.size) s') E { s with heap := s.heap.push (baObj #[]) }) : wpC (model prog w) A (call (.type "bytearray") args) Q E s := by
  refine wpC_call (codeC_of_tree ?_)
  show wpC _ _ (callAny (.type "bytearray") _) _ _ _
  refine wpC_pure ⟨Code.quiet_builtin _ (by decide +kernel), F.clean_typecall, codeC_builtin PySem.F.entry_type_call ?_⟩
  rw [Around.under_plain (weight_type_call_type "bytearray" args []) rfl]
  have hcan := F.called.canCreate
  generalize hD : ((Manifest.find? "bytearray").bind (·.mro.findSome? fun t => (Manifest.find? t).bind fun b => if b.noNew then some true else if b.attrs.any (·.1 == "__new__") then some false else none)).getD false = D at hcan
  unfold Builtin.«type.__call__»
  refine wpC_no (by decide) ?_
  refine wpC_no (c := _ = true) (fun hh => ?_) ?_
  · have hh' : D = true := hD.symm.trans hh
    rw [hcan] at hh'; exact Bool.false_ne_true hh'
  refine wpC_lift (wpAny_of_eq hct ?_)
  refine wpC_lift (wpAny_of_eq F.mro_ba ?_)
  rw [if_neg (by simp)]
  refine wpC_lift (wpAny_of_eq F.called.made ?_)
  refine wpC_lift (wpAny_pure ?_)
  refine wpC_lift (wpAny_holding (wpAny_call (codeAny_mono (code_ba_new (E := fun _ _ => False) (Q₁ := fun o s' => o = .ref s.heap.objs.size ∧ s' = { s with heap := s.heap.push (baObj #[]) }) hck ⟨rfl, rfl⟩) fun r s₁ hr => ?_)))
  cases r with
  | error e => exact hr.elim
  | ok fl =>
    cases fl with
    | ret obj =>
      obtain ⟨rfl, rfl⟩ := hr
      have hba : ({ s with heap := s.heap.push (baObj #[]) } : Shared).heap.get? s.heap.objs.size = some (baObj #[]) := Heap.get?_push_size _ rfl
      dsimp only
      refine wpC_lift (wpAny_isInstance (ba_typeIs hba) F.sub_self ?_)
      refine wpC_no Bool.false_ne_true ?_
      refine wpC_bind (wpC_holding ?_)
      unfold callSpecial?
      refine wpC_lift (wpAny_specialOf (ba_typeIs hba) F.slot_init.lookup ?_)
      dsimp only
      refine wpC_holding ?_
      refine wpC_lift (wpAny_of_eq (F.slot_init.bind _) ?_)
      refine wpC_bind (wpC_call (codeC_call_builtin F.slot_init.plain F.clean_init F.entry_init (F.slot_init.check _ _ _ _ _ _ _ _ (ba_typeIs hba) (hok _) (wpC_mono hi (fun fin s₂ hf => ?_) fun _ _ x => x))))
      obtain ⟨rfl, hq⟩ := hf
      exact wpC_pure (wpC_pure hq)
    | _ => exact hr.elim
/-- bytearray() -/
theorem ba_make0 {Q : Value → Shared → Prop} (hg : A.guards = some []) (hQ : ∀ h', h'.get? s.heap.objs.size = some (baObj #[]) → (∀ b o, s.heap.get? b = some o → h'.get? b = some o) → Q (.ref s.heap.objs.size) { s with heap := h' }) :
    wpC (model prog w) A (call (.type "bytearray") []) Q E s := by
  have hba : ({ s with heap := s.heap.push (baObj #[]) } : Shared).heap.get? s.heap.objs.size = some (baObj #[]) := Heap.get?_push_size _ rfl
  refine ba_typeCall F.typeCall0 F.newCall0 (fun o => F.args_init0 o) ?_
  unfold Builtin.«bytearray.__init__»
  dsimp only
  refine wpC_lift (ba_ownRelease hba ?_)
  refine wpC_no Bool.false_ne_true ?_
  refine wpC_lift (wpAny_of_eq F.bind0 ?_)
  dsimp only
  refine wpC_lift (wpAny_of_eq (a := ()) rfl ?_)
  refine wpC_lift (wpAny_of_eq (a := ()) rfl ?_)
  refine wpC_bind (wpC_bind (wpC_exported hg ?_))
  show wpC _ _ (do let n ← Bytes.exportsOf (.ref s.heap.objs.size); pure (decide (n > 0))) _ _ _
  refine wpC_lift ?_
  unfold Bytes.exportsOf
  refine wpAny_bind (wpAny_load hba ?_)
  refine wpAny_pure (wpC_pure ?_)
  refine wpC_no (by decide) ?_
  refine wpC_lift (ba_write hba (Nat.zero_le _) fun h' e hs => ?_)
  refine wpC_lift (wpAny_of_eq (a := ()) rfl ?_)
  exact wpC_pure ⟨rfl, hQ h' e fun b o x => hs.extBut b o (Nat.ne_of_lt (Heap.lt_size x)) (Heap.get?_push_of_some _ x)⟩
theorem ints_while {p : Value → Bool} : ∀ {vs : List Value} {ns : List Int}, IntsAre vs ns → (∀ n ∈ ns, 0 ≤ n ∧ n < 256) → (∀ i t, p (.int i t) = (decide (0 ≤ i) && decide (i < 256))) → vs.takeWhile p = vs
  | _, _, .nil, _, _ => rfl
  | _, _, .cons n t h, hr, hp => by
    have h1 := hr n (List.mem_cons_self ..)
    have h2 := ints_while h (fun k hk => hr k (List.mem_cons_of_mem _ hk)) hp
    rw [List.takeWhile_cons, hp n t]
    simp [h1.1, h1.2, h2]
theorem ints_octets {f : Value → Option UInt8} : ∀ {vs : List Value} {ns : List Int}, IntsAre vs ns → (∀ i t, f (.int i t) = some i.toNat.toUInt8) → vs.filterMap f = ns.map fun n => n.toNat.toUInt8
  | _, _, .nil, _ => rfl
  | _, _, .cons n t h, hf => by
    rw [List.filterMap_cons, hf n t, ints_octets h hf]; rfl
/-- bytearray(row) -/
theorem ba_make1 {l : Addr} {vs : List Value} {ns : List Int} {Q : Value → Shared → Prop} (hg : A.guards = some []) (hl : s.heap.IsList l vs.toArray) (hi : IntsAre vs ns) (hr : ∀ n ∈ ns, 0 ≤ n ∧ n < 256) (hz : ns.length ≤ sizeLine)
    (hQ : ∀ h', h'.get? s.heap.objs.size = some (baObj (byteArr ns)) → (∀ b o, s.heap.get? b = some o → h'.get? b = some o) → Q (.ref s.heap.objs.size) { s with heap := h' }) :
    wpC (model prog w) A (call (.type "bytearray") [.ref l]) Q E s := by
  have hba : ({ s with heap := s.heap.push (baObj #[]) } : Shared).heap.get? s.heap.objs.size = some (baObj #[]) := Heap.get?_push_size _ rfl
  refine ba_typeCall (F.typeCall1 _) (F.newCall1 _) (fun o => F.args_init1 o _) ?_
  unfold Builtin.«bytearray.__init__»
  dsimp only
  refine wpC_lift (ba_ownRelease hba ?_)
  refine wpC_no Bool.false_ne_true ?_
  refine wpC_lift (wpAny_of_eq (F.bind1 _) ?_)
  dsimp only
  refine wpC_lift (wpAny_of_eq (a := ()) rfl ?_)
  refine wpC_lift (wpAny_of_eq (a := ()) rfl ?_)
  refine wpC_bind (wpC_bind (wpC_exported hg ?_))
  show wpC _ _ (do let n ← Bytes.exportsOf (.ref s.heap.objs.size); pure (decide (n > 0))) _ _ _
  refine wpC_lift ?_
  unfold Bytes.exportsOf
  refine wpAny_bind (wpAny_load hba ?_)
  refine wpAny_pure (wpC_pure ?_)
  refine wpC_no (by decide) ?_
  refine wpC_lift (ba_write hba (Nat.zero_le _) fun h' e hs => ?_)
  have keep : ∀ b o, s.heap.get? b = some o → h'.get? b = some o := fun b o x => hs.extBut b o (Nat.ne_of_lt (Heap.lt_size x)) (Heap.get?_push_of_some _ x)
  have hl' : h'.IsList l vs.toArray := hl.at fun o x => keep l o x
  have hT : ({ s with heap := h' } : Shared).TypeIs (.ref l) "list" := Heap.IsList.typeIs (s := { s with heap := h' }) hl'
  obtain ⟨ol, hol, hoc, nl, hod⟩ := id hl'
  dsimp only
  refine wpC_lift ?_
  unfold asStr?
  refine wpAny_bind (wpAny_load hol ?_)
  rw [hod]
  refine wpAny_pure ?_
  refine wpC_no Bool.false_ne_true ?_
  refine wpC_lift (wpAny_of_eq (a := ()) rfl ?_)
  refine wpC_lift (wpAny_specialOf hT PySem.F.bm_no_index ?_)
  refine wpC_no Bool.false_ne_true ?_
  refine wpC_lift ?_
  unfold Bytes.buffer?
  refine wpAny_bind (wpAny_specialOf hT PySem.F.bm_no_buffer ?_)
  refine wpAny_bind (wpAny_specialOf hT PySem.F.bm_no_buffer ?_)
  refine wpAny_pure ?_
  dsimp only
  refine wpC_lift (wpAny_typeOf hT ?_)
  refine wpC_yes (by decide) ?_
  refine wpC_lift ?_
  unfold seqItems?
  refine wpAny_bind (wpAny_load hol ?_)
  rw [hod]
  refine wpAny_pure ?_
  dsimp only
  have e1 := ints_while (p := fun x => match x with | .int i _ => decide (0 ≤ i) && decide (i < 256) | _ => false) hi hr (fun _ _ => rfl)
  rw [ints_while hi hr (fun _ _ => rfl)]
  rw [show vs.toArray[vs.length]? = none from by simp]
  dsimp only
  refine wpC_lift (wpAny_rule ?_)
  rw [ints_octets hi (fun _ _ => rfl)]
  refine wpC_lift (ba_write e (by simpa using hz) fun h₂ e₂ hs₂ => ?_)
  exact wpC_pure ⟨rfl, hQ h₂ e₂ fun b o x => hs₂.extBut b o (Nat.ne_of_lt (Heap.lt_size x)) (keep b o x)⟩
end
end Mine
end
section
open PySem PySem.W PyProof.Rows
set_option maxRecDepth 100000
namespace Mine
open PySem.Sem (wp)
open PySem.Calls PySem.Builtin
section
variable {M : Model} {prog : Program} {w : World} {A : Around} {E : Value → Shared → Prop} {s : Shared} {a : Addr} {b c : Array UInt8} {v : Value} {T : String}
theorem by_new {Q : Value → Shared → Prop} (h : s.heap.get? a = some (baObj b)) (hz : b.size ≤ sizeLine) (hQ : ∀ t k, Q (.bytes b t) { s with toks := k }) :
    codeAny (model prog w) A (.call (.builtin "bytes.__new__") ⟨[.type "bytes", .ref a], []⟩) (wants Q E) s := by
  refine codeAny_of_tree ?_
  show wpAny _ A.in1 (do checkBuiltinCall "bytes.__new__" ⟨[.type "bytes", .ref a], []⟩; again (.builtin "bytes.__new__" ⟨[.type "bytes", .ref a], []⟩)) _ _ s
  refine wpAny_bind (wpAny_of_eq (PySem.F.bm_newCall _) (wpAny_pure ⟨plainId_quiet PySem.F.bm_plain _, codeAny_builtin PySem.F.bm_entry ?_⟩))
  rw [Around.under_plainId PySem.F.bm_plain _]
  have hT := ba_typeIs h
  unfold Builtin.«bytes.__new__»
  refine wpAny_bind (wpAny_of_eq (a := true) rfl ?_)
  refine bm_if_false rfl ?_
  refine wpAny_bind (wpAny_of_eq PySem.F.bm_sub ?_)
  refine bm_if_false rfl ?_
  refine wpAny_bind (wpAny_of_eq (PySem.F.bm_bind _) ?_)
  refine wpAny_bind (wpAny_of_eq (a := ()) rfl ?_)
  refine wpAny_bind (wpAny_of_eq (a := ()) rfl ?_)
  refine bm_if_false rfl ?_
  refine wpAny_bind (wpAny_specialOf hT F.noBytes ?_)
  refine wpAny_bind (wpAny_bind ?_)
  show wpAny _ _ (load a >>= _) _ _ _
  refine wpAny_bind (wpAny_load h ?_)
  refine wpAny_pure (wpAny_pure ?_)
  refine bm_if_false rfl ?_
  refine wpAny_bind (wpAny_specialOf hT F.noIndex ?_)
  refine bm_if_true rfl ?_
  first
    | show wpAny _ _ (Builtin.Bytes.buffer? "bytes.__new__" (.ref a) true >>= _) _ _ _
    | (refine wpAny_bind ?_; show wpAny _ _ (Builtin.Bytes.buffer? "bytes.__new__" (.ref a) true >>= _) _ _ _)
  refine wpAny_bind (ba_buffer h ?_)
  refine wpAny_bind (wpAny_rule ?_)
  refine wpAny_bind (wpAny_mkBytes ?_ hz)
  show wpAny _ _ (if (Value.type "bytes" == Value.type "bytes") = true then _ else _) _ _ _
  refine bm_if_true (by decide) ?_
  first
    | exact wpAny_pure (hQ _ _)
    | exact wpAny_bind (wpAny_pure (wpAny_pure (hQ _ _)))
/-- bytes(out) -/
theorem by_of_ba {Q : Value → Shared → Prop} (h : s.heap.get? a = some (baObj b)) (hz : b.size ≤ sizeLine) (hQ : ∀ t k, Q (.bytes b t) { s with toks := k }) : wpAny (model prog w) A (call (.type "bytes") [.ref a]) Q E s := by
  refine callType_codes (Q₁ := fun obj s₁ => s₁.TypeIs obj "bytes" ∧ Q obj s₁) PySem.F.bm_called (PySem.F.bm_typeCall _) PySem.F.entry_object_init
    (by_new h hz fun t k => ⟨PySem.W.typeIs_bytes _ _ _, hQ t k⟩) fun obj s₁ h₁ => ?_
  exact ⟨h₁.1, PySem.F.args_object_init_2 obj _, object_init_meets PySem.F.bm_called.init.lookup PySem.F.bm_called.made (by decide) prog w A.in1 _ s₁ ⟨h₁.1, rfl, h₁.2⟩⟩
end
end Mine
end
section
open PySem PySem.W PyProof.Rows
set_option maxRecDepth 100000
namespace Mine
open PySem.Sem (wp)
open PySem.Calls PySem.Builtin
namespace F
theorem slot_next : Slot "bytearray_iterator" "__next__" "bytearray_iterator.__next__" :=
  .of (owner := "bytearray_iterator") (n := "__next__") (by rw [typeLookup_type, builtinLookup_eq_fast]; kernel_rfl) (by decide +kernel) (by decide +kernel) (by decide +kernel) (by first | exact .inl (by decide +kernel) | exact .inr (by decide +kernel)) (by rw [isSubtype_type]; kernel_rfl)
theorem slot_self : Slot "bytearray_iterator" "__iter__" "bytearray_iterator.__iter__" :=
  .of (owner := "bytearray_iterator") (n := "__iter__") (by rw [typeLookup_type, builtinLookup_eq_fast]; kernel_rfl) (by decide +kernel) (by decide +kernel) (by decide +kernel) (by first | exact .inl (by decide +kernel) | exact .inr (by decide +kernel)) (by rw [isSubtype_type]; kernel_rfl)
theorem entry_next : entryFor table "bytearray_iterator.__next__" = some Builtin.«bytearray_iterator.__next__» := entryFor_of_tree (by kernel_rfl)
theorem entry_self : entryFor table "bytearray_iterator.__iter__" = some Builtin.«dict_keyiterator.__iter__» := entryFor_alias (id' := "dict_keyiterator.__iter__") (by kernel_rfl) rfl (by decide +kernel) (by kernel_rfl)
theorem args_next (a : Value) : argsOk "bytearray_iterator.__next__" ⟨[a], []⟩ := by unfold argsOk; kernel_rfl
theorem args_self (a : Value) : argsOk "bytearray_iterator.__iter__" ⟨[a], []⟩ := by unfold argsOk; kernel_rfl
end F
def IsBaIter (h : Heap) (it a : Addr) (i : Nat) : Prop := ∃ o, h.get? it = some o ∧ o.cls = .type "bytearray_iterator" ∧ o.data = .fields #[.ref a, .int i 0]
theorem baIter_typeIs {s : Shared} {it a : Addr} {i : Nat} (y : IsBaIter s.heap it a i) : s.TypeIs (.ref it) "bytearray_iterator" := let ⟨o, ho, hc, _⟩ := y; ⟨o, ho, hc⟩
section
variable {prog : Program} {w : World} {A : Around} {E : Value → Shared → Prop} {s : Shared} {a it : Addr} {b : Array UInt8}
theorem ba_pyIter {Q : Value → Shared → Prop} (h : s.heap.get? a = some (baObj b)) (hQ : Q (.ref s.heap.objs.size) { s with heap := s.heap.push { cls := .type "bytearray_iterator", data := .fields #[.ref a, .int 0 0] } }) : wpAny (model prog w) A (pyIter (.ref a)) Q E s := by
  refine wpAny_pyIter_slot (ba_typeIs h) F.slot_iter (wpAny_call_entry F.slot_iter (ba_typeIs h) F.entry_iter ?_ (F.args_iter _))
  show wpAny _ _ (do ret (← newFields "bytearray_iterator" [.ref a, rawInt 0])) _ _ s
  exact wpAny_bind (wpAny_newObj_type (wpAny_pure ⟨_, rfl, "bytearray_iterator", _, ⟨_, Heap.get?_push_size _ rfl, rfl⟩, F.slot_next.lookup, hQ⟩))
theorem baIter_self {i : Nat} {Q : Value → Shared → Prop} (hit : IsBaIter s.heap it a i) (h : Q (.ref it) s) : wpAny (model prog w) A (pyIter (.ref it)) Q E s := by
  refine wpAny_pyIter_slot (baIter_typeIs hit) F.slot_self (wpAny_call_entry F.slot_self (baIter_typeIs hit) F.entry_self ?_ (F.args_self _))
  show wpAny _ _ (ret (.ref it)) _ _ s
  exact wpAny_pure ⟨_, rfl, "bytearray_iterator", _, baIter_typeIs hit, F.slot_next.lookup, h⟩
theorem baIter_item {i : Nat} {c : UInt8} {Q : Option Value → Shared → Prop} (hit : IsBaIter s.heap it a i) (ha : s.heap.get? a = some (baObj b)) (hx : b[i]? = some c)
    (hQ : ∀ h', IsBaIter h' it a (i + 1) → Heap.SameBut it s.heap h' → Q (some (.int (c.toNat : Int) s.toks)) { s with heap := h', toks := s.toks + 1 }) : wpAny (model prog w) A (pyNext (.ref it)) Q E s := by
  obtain ⟨o, ho, hc, hd⟩ := id hit
  unfold pyNext
  refine wpAny_bind (wpAny_attempt (wpAny_callSpecial?_slot (name := PySem.Str.ofString "__next__") (baIter_typeIs hit) F.slot_next
    (wpAny_call_entry F.slot_next (baIter_typeIs hit) F.entry_next ?_ (F.args_next _))))
  show wpAny _ _ (field (.ref it) 0 >>= _) _ _ s
  refine wpAny_bind (wpAny_field ho hd (x := .ref a) rfl ?_)
  refine wpAny_bind (wpAny_load ha ?_)
  show wpAny _ _ (field (.ref it) 1 >>= _) _ _ s
  refine wpAny_bind (wpAny_field ho hd (x := .int i 0) rfl ?_)
  dsimp only
  simp only [Int.toNat_natCast, hx]
  refine wpAny_bind (wpAny_setField ho hd (by simp) (wpAny_bind (wpAny_mkInt (wpAny_pure ⟨_, rfl, wpAny_pure (hQ _ ?_ (Heap.SameBut.update ..))⟩))))
  exact ⟨_, Heap.get?_update_self _ ho (Obj.isFreed_of_fields (Obj.data_mapFields hd _)), (Obj.cls_mapFields ..).trans hc, by
    rw [Obj.data_mapFields hd]; simp [rawInt]⟩
theorem baIter_end {i : Nat} {Q : Option Value → Shared → Prop} (hh : A.handled = none) (hit : IsBaIter s.heap it a i) (ha : s.heap.get? a = some (baObj b)) (hx : b[i]? = none)
    (hQ : ∀ h', Heap.ExtBut it s.heap h' → Q none { s with heap := h' }) : wpAny (model prog w) A (pyNext (.ref it)) Q E s := by
  obtain ⟨o, ho, hc, hd⟩ := id hit
  unfold pyNext
  refine wpAny_bind (wpAny_attempt (wpAny_callSpecial?_slot (name := PySem.Str.ofString "__next__") (baIter_typeIs hit) F.slot_next
    (wpAny_call_entry F.slot_next (baIter_typeIs hit) F.entry_next ?_ (F.args_next _))))
  show wpAny _ _ (field (.ref it) 0 >>= _) _ _ s
  refine wpAny_bind (wpAny_field ho hd (x := .ref a) rfl ?_)
  refine wpAny_bind (wpAny_load ha ?_)
  show wpAny _ _ (field (.ref it) 1 >>= _) _ _ s
  refine wpAny_bind (wpAny_field ho hd (x := .int i 0) rfl ?_)
  dsimp only
  simp only [Int.toNat_natCast, hx]
  refine wpAny_bind (wpAny_rule (wpAny_bind (wpAny_setField ho hd (by simp) ?_)))
  refine wpAny_bind (wpAny_letGo ?_)
  show wpAny _ _ (newExc (.type "StopIteration") [] >>= _) _ _ _
  refine wpAny_bind ?_
  simp only [newExc, newTuple]
  refine wpAny_bind (wpAny_newObj_type ?_ (by size_fits))
  refine wpAny_bind (m := firstArgMember _ _) (wpAny_of_eq (a := Value.none) (by first | rfl | (simp only [firstArgMember]; rfl)) ?_)
  refine wpAny_newObj_type ?_ (by size_fits)
  simp only [raiseNew]
  refine wpAny_bind (wpAny_handled ?_)
  rw [show A.in1.handled = none from hh]
  refine wpAny_bind (wpAny_pure (wpAny_throw ?_))
  refine wpAny_bind (wpAny_isInstance (T := "StopIteration") (b := true) ⟨_, Heap.get?_push_size _ rfl, rfl⟩ isSubtype_stop ?_)
  exact wpAny_pure (hQ _ (((Heap.SameBut.update ..).extBut.push _).push _))
end
theorem ba_walks {prog : Program} {w : World} {A : Around} (hh : A.handled = none) (I a : Addr) (hne : a ≠ I) (b : Array UInt8) :
    Walks prog w A I [I, a] [I] b.size (fun i v => ∃ c u, b[i]? = some c ∧ v = .int (c.toNat : Int) u) (fun i h => IsBaIter h I a i ∧ h.get? a = some (baObj b)) where
  sub := fun b hb => by simp at hb; simp [hb]
  frame := fun _ _ _ st hk => ⟨let ⟨o, ho, r⟩ := st.1; ⟨o, hk I (by simp) o ho, r⟩, hk a (by simp) _ st.2⟩
  item := fun i s Q E hi st hQ => by
    refine baIter_item st.1 st.2 (c := b[i]) (by simp [hi]) fun h' hit' hs' => ?_
    exact hQ _ h' (s.toks + 1) ⟨_, _, by simp [hi], rfl⟩ ⟨hit', hs'.extBut a _ hne st.2⟩ fun b o hb e => hs'.extBut b o (fun h => hb (by simp [h])) e
  done := fun s Q E st hQ => baIter_end hh st.1 st.2 (by simp) fun h' he' => hQ h' s.toks fun b o hb e => he' b o (fun h => hb (by simp [h])) e
  self := fun _ _ _ _ st hQ => baIter_self st.1 hQ
end Mine
end
section
open PySem PySem.W PyProof.Rows
set_option maxRecDepth 100000
namespace Mine
open PySem.Sem (wp)
open PySem.Calls PySem.Builtin
section
variable {prog : Program} {w : World} {A : Around} {E : Value → Shared → Prop} {s : Shared} {a it : Addr} {b : Array UInt8}
theorem ba_hint {Q : Bool → Shared → Prop} (ha : s.heap.get? a = some (baObj b)) (hQ : Q false s) : wpAny (model prog w) A (List.listLengthHint (.ref a)) Q E s := by
  unfold List.listLengthHint
  refine wpAny_bind (wpAny_specialOf (ba_typeIs ha) F.slot_len.lookup ?_)
  dsimp only
  rw [show splitId "bytearray.__len__" = some ("bytearray", "__len__") from by decide +kernel]
  dsimp only
  refine wpAny_bind (wpAny_isInstance (ba_typeIs ha) F.sub_self ?_)
  refine wpAny_ite (KBy.ite_no Bool.false_ne_true ?_)
  refine bm_if_true (by decide +kernel) ?_
  refine wpAny_bind (wpAny_typeOf (ba_typeIs ha) ?_)
  exact wpAny_pure hQ
theorem ba_extend {R : Result → Shared → Prop} (hh : A.handled = none) (ha : s.heap.get? a = some (baObj b)) (hlen : b.size ≤ sizeLine) (S : Addr) (res : Value) (c₀ : Nat) (hS : s.heap.get? S = some { cls := .type "list", data := .seq #[] c₀ })
    (hR : ∀ h' tk acc' c', (∀ b o, b ≠ S → s.heap.get? b = some o → h'.get? b = some o) → h'.get? S = some { cls := .type "list", dict := none, data := .seq acc' c', slots := #[] } →
      ItemsOf (fun i v => ∃ c u, b[i]? = some c ∧ v = .int (c.toNat : Int) u) acc' b.size → R (.ok (.ret res)) { s with heap := h', toks := tk }) :
    wpAny (model prog w) A.in1 (List.listExtendWith (.ref S) (.ref a) res)
      (fun fin s' => match fin with | .done f => R (.ok f) s' | .again c' => c'.quiet = true ∧ codeAny (model prog w) A c' R s') (fun e s' => R (.error e) s') s := by
  have hSa : S ≠ a := fun e => by rw [e, ha] at hS; simp [baObj] at hS
  have hSlt : S < s.heap.objs.size := Heap.lt_size hS
  have hSI : S ≠ s.heap.objs.size := Nat.ne_of_lt hSlt
  have haI : a ≠ s.heap.objs.size := Nat.ne_of_lt (Heap.lt_size ha)
  have hSf : S ∉ [s.heap.objs.size, a] := fun hm => by simp at hm; exact hm.elim hSI hSa
  have W := (ba_walks (prog := prog) (w := w) (A := A.in1) hh s.heap.objs.size a haI b).toS
  have key : ∀ (h : Heap) (c₁ tk : Nat), IsBaIter h s.heap.objs.size a 0 → h.get? a = some (baObj b) → (∀ b o, b ≠ S → s.heap.get? b = some o → h.get? b = some o) →
      h.get? S = some { cls := .type "list", data := .seq #[] c₁ } → codeAny (model prog w) A (.builtin "list.extend.loop" ⟨[.ref S, .ref s.heap.objs.size, res], []⟩) R { s with heap := h, toks := tk } := by
    intro h c₁ tk hit ha₁ hk hS₁
    refine codeAny_extend_loopS W hlen S hSf res b.size 0 _ #[] c₁ rfl (Nat.zero_le _) ⟨hit, ha₁⟩ hS₁ (ItemsOf.nil _) fun s' acc' c' hm hS' hacc => ?_
    rw [Moved.eq_with hm]
    refine hR s'.heap s'.toks acc' c' (fun b o hb e => hm.heap b o (fun hmem => ?_) (hk b o hb e)) hS' hacc
    rcases List.mem_cons.mp hmem with e' | hmem
    · exact hb e'
    · exact absurd (Heap.lt_size e) (by rw [List.mem_singleton.mp hmem]; exact Nat.lt_irrefl _)
  unfold List.listExtendWith
  refine wpAny_bind (wpAny_typeOf (ba_typeIs ha) ?_)
  have h1 : List.listSameRef (.ref S) (.ref a) = false := by simp [List.listSameRef, hSa]
  have h2 : (Value.type "bytearray" == Value.type "list") = false := by decide
  have h3 : (Value.type "bytearray" == Value.type "tuple") = false := by decide
  simp only [h1, h2, h3, Bool.or_false, Bool.false_eq_true, if_false]
  refine wpAny_bind (ba_pyIter ha ?_)
  refine wpAny_bind (wpAny_holding (ba_hint (Heap.get?_push_of_some _ ha) ?_))
  refine bm_if_false (by decide +kernel) ?_
  exact wpAny_pure ⟨plainId_quiet PySem.F.plain_extend_loop _, key _ c₀ _ ⟨_, Heap.get?_push_size _ rfl, rfl, rfl⟩ (Heap.get?_push_of_some _ ha) (fun b o _ e => Heap.get?_push_of_some _ e) (Heap.get?_push_of_some _ hS)⟩
/-- list(held) -/
theorem ba_list {Q : Value → Shared → Prop} (hh : A.handled = none) (ha : s.heap.get? a = some (baObj b)) (hlen : b.size ≤ sizeLine)
    (hQ : ∀ h' tk acc' c', (∀ b o, s.heap.get? b = some o → h'.get? b = some o) →
      h'.get? s.heap.objs.size = some { cls := .type "list", dict := none, data := .seq acc' c', slots := #[] } → ItemsOf (fun i v => ∃ c u, b[i]? = some c ∧ v = .int (c.toNat : Int) u) acc' b.size → Q (.ref s.heap.objs.size) { s with heap := h', toks := tk }) :
    wpAny (model prog w) A (call (.type "list") [.ref a]) Q E s := by
  refine callType_codes (Q₁ := fun obj s₁ => obj = .ref s.heap.objs.size ∧ s₁ = { s with heap := s.heap.push { cls := .type "list", data := .seq #[] } }) PySem.F.called_list (PySem.F.typeCall_list_1 _) PySem.F.entry_list_init
    (code_list_new _ ⟨rfl, rfl⟩) fun obj s₁ h₁ => ?_
  obtain ⟨rfl, rfl⟩ := h₁
  have hS : (s.heap.push { cls := .type "list", data := .seq #[] }).get? s.heap.objs.size = some { cls := .type "list", data := .seq #[] } := Heap.get?_push_size _ rfl
  refine ⟨⟨_, hS, rfl⟩, PySem.F.args_list_init_2 _ _, ?_⟩
  show wpAny _ _ (do let old ← List.listItems (.ref s.heap.objs.size); List.listUpdate (.ref s.heap.objs.size) (fun _ => #[]); letGo old.toList.reverse; List.listExtendWith (.ref s.heap.objs.size) (.ref a) .none) _ _ _
  refine wpAny_bind ?_
  unfold List.listItems
  refine wpAny_bind (wpAny_seqItems hS rfl (wpAny_pure ?_))
  show wpAny _ _ (updateSeq s.heap.objs.size (fun _ => #[]) >>= fun _ => letGo (#[] : Array Value).toList.reverse >>= fun _ => List.listExtendWith (.ref s.heap.objs.size) (.ref a) .none) _ _ _
  refine wpAny_bind (wpAny_updateSeq hS rfl ?_)
  have hS₂ := Heap.get?_update_self (Obj.mapSeq (fun _ => (#[] : Array Value))) hS rfl
  have oth : ∀ b o, b ≠ s.heap.objs.size → (s.heap.push { cls := .type "list", data := .seq #[] }).get? b = some o → ((s.heap.push { cls := .type "list", data := .seq #[] }).update s.heap.objs.size (Obj.mapSeq (fun _ => (#[] : Array Value)))).get? b = some o :=
    fun b o hb e => (Heap.get?_update_other _ _ (Ne.symm hb)).trans e
  have haI : a ≠ s.heap.objs.size := Nat.ne_of_lt (Heap.lt_size ha)
  refine wpAny_bind (wpAny_letGo ?_)
  refine ba_extend (A := A.in1) hh (oth a _ haI (Heap.get?_push_of_some _ ha)) hlen _ .none _ hS₂ fun h' tk acc' c' hk hS' hacc => ?_
  exact ⟨rfl, hQ h' tk acc' c' (fun b o e => hk b o (Nat.ne_of_lt (Heap.lt_size e)) (oth b o (Nat.ne_of_lt (Heap.lt_size e)) (Heap.get?_push_of_some _ e))) hS' hacc⟩
end
end Mine
end
section
open PySem PySem.W PyProof.Rows
set_option maxRecDepth 100000
namespace Mine
open PySem.Sem (wp)
open PySem.Calls PySem.Builtin
namespace F
theorem slot_ga : Slot "bytearray" "__getattribute__" "bytearray.__getattribute__" :=
  .of (owner := "bytearray") (n := "__getattribute__") (by rw [typeLookup_type, builtinLookup_eq_fast]; kernel_rfl) (by decide +kernel) (by decide +kernel) (by decide +kernel) (by first | exact .inl (by decide +kernel) | exact .inr (by decide +kernel)) (by rw [isSubtype_type]; kernel_rfl)
theorem args_ga (a b : Value) : argsOk "bytearray.__getattribute__" ⟨[a, b], []⟩ := by unfold argsOk; kernel_rfl
theorem entry_ga : entryFor table "bytearray.__getattribute__" = some Builtin.«object.__getattribute__» :=
  entryFor_alias (id' := "object.__getattribute__") (by kernel_rfl) (by first | rfl | decide +kernel) (by decide +kernel) (by kernel_rfl)
theorem lk_class : typeLookup (.type "bytearray") "__class__" = pure (some (.builtin "object.__class__")) := by rw [typeLookup_type, builtinLookup_eq_fast]; kernel_rfl
theorem sub_class_owner : isSubtype (.type "bytearray") (.type (".".intercalate ("object.__class__".cutAt '.').dropLast)) = pure true := by
  rw [PySem.F.owner_object_class, isSubtype_type]; kernel_rfl
end F
section
variable {prog : Program} {w : World} {A : Around} {E : Value → Shared → Prop} {h : Heap} {g : Array GenState} {d : Drawn} {t : Nat} {os : OsState} {a : Addr} {o : Obj}
theorem class_get_ba {R : Result → Shared → Prop} (hx : h.get? a = some o) (hc : o.cls = .type "bytearray") (hq : R (.ok (.ret (.type "bytearray"))) ⟨h, g, d, t, os⟩) :
    codeAny (model prog w) A (.call (.builtin "getset_descriptor.__get__") ⟨[.builtin "object.__class__", .ref a, .type "bytearray"], []⟩) R ⟨h, g, d, t, os⟩ := by
  have hT : (⟨h, g, d, t, os⟩ : Shared).TypeIs (.ref a) "bytearray" := ⟨_, hx, hc⟩
  have hT5 : (⟨h, g, d, t, os⟩ : Shared).TypeIs (.builtin "object.__class__") "getset_descriptor" := PySem.F.typeOf_object_class
  have f8 := F.sub_class_owner
  refine codeAny_call_builtin PySem.F.slot_gs_get.plain PySem.F.entry_gs_get (PySem.F.slot_gs_get.check _ _ _ _ _ _ _ _ hT5 (PySem.F.args_gs_get _ _ _) ?_)
  repeat (any_goals (first | assumption | wp_step))
  refine ⟨Code.quiet_builtin _ (by decide +kernel), codeAny_builtin PySem.F.entry_object_class ?_⟩
  repeat (any_goals (first | assumption | wp_step))
theorem class_entry_ba {tk : Tok} {Q : Fin → Shared → Prop} (hx : h.get? a = some o) (hc : o.cls = .type "bytearray") (hq : Q (.done (.ret (.type "bytearray"))) ⟨h, g, d, t, os⟩) :
    wpAny (model prog w) A (Builtin.«object.__getattribute__» ⟨[.ref a, .str "__class__" tk], []⟩) Q E ⟨h, g, d, t, os⟩ := by
  have hT : (⟨h, g, d, t, os⟩ : Shared).TypeIs (.ref a) "bytearray" := ⟨_, hx, hc⟩
  have hT5 : (⟨h, g, d, t, os⟩ : Shared).TypeIs (.builtin "object.__class__") "getset_descriptor" := PySem.F.typeOf_object_class
  have f4 := F.lk_class
  have f5 := PySem.F.typeOf_object_class
  have f6 := PySem.F.slot_gs_get.lookup
  have f7 := PySem.F.slot_gs_set.lookup
  repeat (any_goals (first | assumption | wp_step))
  refine class_get_ba hx hc ?_
  repeat (any_goals (first | assumption | wp_step))
theorem class_call_ba {tk : Tok} {R : Result → Shared → Prop} (hx : h.get? a = some o) (hc : o.cls = .type "bytearray") (hq : R (.ok (.ret (.type "bytearray"))) ⟨h, g, d, t, os⟩) :
    codeAny (model prog w) A (.call (.builtin "bytearray.__getattribute__") ⟨[.ref a, .str "__class__" tk], []⟩) R ⟨h, g, d, t, os⟩ :=
  codeAny_call_builtin F.slot_ga.plain F.entry_ga (F.slot_ga.check _ _ _ _ _ _ _ _ (show (⟨h, g, d, t, os⟩ : Shared).TypeIs (.ref a) "bytearray" from ⟨_, hx, hc⟩) (F.args_ga _ _) (class_entry_ba hx hc hq))
theorem class_by_ba {tk : Tok} {Q : Value → Shared → Prop} (hx : h.get? a = some o) (hc : o.cls = .type "bytearray") (hq : Q (.type "bytearray") ⟨h, g, d, t, os⟩) : wpAny (model prog w) A (getAttrBy (.ref a) (.str "__class__" tk) false) Q E ⟨h, g, d, t, os⟩ := by
  have hT : (⟨h, g, d, t, os⟩ : Shared).TypeIs (.ref a) "bytearray" := ⟨_, hx, hc⟩
  have f2 := F.slot_ga.lookup
  have f3 := F.slot_ga.bind (.ref a)
  repeat (any_goals (first | assumption | wp_step))
  refine class_call_ba hx hc ?_
  repeat (any_goals (first | assumption | wp_step))
theorem class_attr_ba {Q : Option Value → Shared → Prop} (hx : h.get? a = some o) (hc : o.cls = .type "bytearray") (hq : Q (some (.type "bytearray")) ⟨h, g, d, t + 1, os⟩) : wpAny (model prog w) A (getAttr? (.ref a) "__class__") Q E ⟨h, g, d, t, os⟩ := by
  unfold getAttr? getAttrBy?
  repeat (any_goals (first | assumption | with_reducible apply class_by_ba hx hc | wp_step))
theorem nested_false_ba {T : String} {dep : Int} {tk : Tok} {Q : Fin → Shared → Prop} (hx : h.get? a = some o) (hc : o.cls = .type "bytearray") (hne : (Value.type "bytearray" == Value.type T) = false) (hty : typeOf (.type T) = pure (.type "type"))
    (hsub : isSubtype (.type "bytearray") (.type T) = pure false) (hq : Q (.done (.ret (.bool false))) ⟨h, g, d, t + 1, os⟩) :
    wpAny (model prog w) A (Builtin.«isinstance.nested» ⟨[.ref a, .type T, .int dep tk], []⟩) Q E ⟨h, g, d, t, os⟩ := by
  have hT : (⟨h, g, d, t, os⟩ : Shared).TypeIs (.ref a) "bytearray" := ⟨_, hx, hc⟩
  repeat (any_goals (first | assumption | with_reducible apply class_attr_ba hx hc | wp_step))
end
section
variable {prog : Program} {w : World} {A : Around} {E : Value → Shared → Prop} {s : Shared} {a : Addr} {b : Array UInt8} {u : Tok} {Q : Value → Shared → Prop}
theorem isi_ba_str (hx : s.heap.get? a = some (baObj b)) (hQ : Q (.bool false) { s with toks := s.toks + 1 }) : wpAny (model prog w) A (call (.builtin "isinstance") [.ref a, .type "str"]) Q E s :=
  call_isinstance (S := fun _ R s => s.heap.get? a = some (baObj b) ∧ R (.ok (.ret (.bool false))) { s with toks := s.toks + 1 }) (fun _ _ _ _ s hs => by
    obtain ⟨h, g, d, t, os⟩ := s
    exact isinstance_outer (nested_false_ba hs.1 rfl (by decide +kernel) PySem.F.isi_meta_str F.sub_str hs.2)) ⟨hx, hQ⟩
theorem isi_by_str (hQ : Q (.bool false) { s with toks := s.toks + 1 }) : wpAny (model prog w) A (call (.builtin "isinstance") [.bytes b u, .type "str"]) Q E s :=
  call_isinstance (S := fun _ R s => R (.ok (.ret (.bool false))) { s with toks := s.toks + 1 }) (fun _ _ _ _ s hs => by
    obtain ⟨h, g, d, t, os⟩ := s
    exact isinstance_outer (isinstance_nested_false_bytes (by decide +kernel) PySem.F.isi_meta_str (by rw [isSubtype_type]; kernel_rfl) hs)) hQ
theorem isi_by_by (hQ : Q (.bool true) s) : wpAny (model prog w) A (call (.builtin "isinstance") [.bytes b u, .type "bytes"]) Q E s :=
  call_isinstance (isinstance_true (Tx := "bytes") PySem.F.isi_meta_bytes PySem.F.bm_sub) ⟨typeIs_bytes _ _ _, hQ⟩
end
end Mine
end
section
namespace Mine
/-- the reader: what a block still owes, whether a nought is due, what is told so far, the row's rest -/
def rd : Nat → Bool → List UInt8 → List UInt8 → Option (List UInt8)
  | k, _, out, [] => if k = 0 then some out else none
  | k, f, out, c :: r => if c = 0 then none else if 0 < k then rd (k - 1) f (out ++ [c]) r else rd (c.toNat - 1) (decide (c.toNat < 255)) (if f then out ++ [0] else out) r
theorem rd_nil (k : Nat) (f : Bool) (out : List UInt8) : rd k f out [] = if k = 0 then some out else none := by rw [rd]
theorem rd_cons (k : Nat) (f : Bool) (out : List UInt8) (c : UInt8) (r : List UInt8) :
    rd k f out (c :: r) = if c = 0 then none else if 0 < k then rd (k - 1) f (out ++ [c]) r else rd (c.toNat - 1) (decide (c.toNat < 255)) (if f then out ++ [0] else out) r := by rw [rd]
/-- a block of k octets -/
theorem rd_block (f : Bool) : ∀ (k : Nat) (r out : List UInt8), rd k f out r = if r.length < k ∨ 0 ∈ r.take k then none else rd 0 f (out ++ r.take k) (r.drop k) := by
  intro k
  induction k with
  | zero => intro r out; simp
  | succ k ih =>
    intro r out
    cases r with
    | nil => rw [rd_nil]; simp
    | cons c r =>
      rw [rd_cons]
      by_cases hc : c = 0
      · subst hc; simp
      · rw [if_neg hc, if_pos (Nat.succ_pos k), Nat.add_sub_cancel, ih r (out ++ [c])]
        have hne : ¬ (0 : UInt8) = c := fun e => hc e.symm
        simp only [List.length_cons, Nat.add_lt_add_iff_right, List.take_succ_cons, List.mem_cons, hne, false_or, List.drop_succ_cons, List.append_assoc, List.singleton_append]
theorem rd_none_of_zero (f : Bool) (out r : List UInt8) : rd 0 f out (0 :: r) = none := by rw [rd_cons]; simp
/-- one turn of decode -/
theorem rd_turn (f : Bool) (out : List UInt8) (c : UInt8) (r : List UInt8) (hc : c ≠ 0) :
    rd 0 f out (c :: r) = if r.length < c.toNat - 1 ∨ 0 ∈ r.take (c.toNat - 1) then none else rd 0 (decide (c.toNat < 255)) ((if f then out ++ [0] else out) ++ r.take (c.toNat - 1)) (r.drop (c.toNat - 1)) := by
  rw [rd_cons, if_neg hc, if_neg (Nat.lt_irrefl 0), rd_block]
/-- what is told is no longer than the row and what stood -/
theorem rd_length : ∀ (bs : List UInt8) (k : Nat) (f : Bool) (out t : List UInt8), rd k f out bs = some t → t.length ≤ out.length + bs.length := by
  intro bs
  induction bs with
  | nil => intro k f out t h; rw [rd_nil] at h; split at h <;> simp_all
  | cons c r ih =>
    intro k f out t h
    rw [rd_cons] at h
    split at h
    · cases h
    · split at h
      · have := ih _ _ _ _ h
        simp only [List.length_append, List.length_cons, List.length_nil] at this ⊢
        omega
      · have := ih _ _ _ _ h
        have h2 : (if f = true then out ++ [0] else out).length ≤ out.length + 1 := by split <;> simp
        simp only [List.length_cons] at this ⊢
        omega
end Mine
end
section
open PySem PySem.W PyProof.Rows
set_option maxRecDepth 100000
namespace Mine
open PySem.Sem (wp)
open PySem.Calls

section
variable {prog : Program} {w : World} {A A₀ : Around} {s : Shared} {base h₀ : Heap} {L : Addr} {m : Str → Option Value} {news : List (Addr × Obj)} {K : Frag} {p : Program} {loose : List Str} {mean : ExcName → Option Value} {mg mb : Str → Option Value}
/-- a call of a def of the text, its body on a clean stack -/
theorem codeC_def {env : Env} {outer : List Env} {R : Result → Shared → Prop} {name qual : Str} {params : Arguments} {body : List Stmt} {scope : Scope} {dV kV doc pm cdv ct oc : Value} {an od : Option Addr} {osl : Array (Option Value)} {f : Addr} {args : Args} {binds : List (Str × Value)}
    (B : Below A₀ base outer h₀) (F : Fr h₀ L s.heap m) (X₀ : K.In h₀) (N : News h₀ L s.heap news) (T : Top p loose mean mg mb h₀) (hA : A.frames = some (env :: outer)) (hf : env.frame = some L) (hke : env.scope.kind = .function)
    (ho : K.lookup f = some ⟨oc, od, .func (fnOf name qual params body scope dV kV doc pm an cdv ct), osl⟩) (hcd : codeIn K cdv qual = true) (hroom : A.depth < recursionLimit)
    (hbind : BindsTo s (fnOf name qual params body scope dV kV doc pm an cdv ct) args binds) (hloc : ∀ y ∈ binds, scope.names.lookup y.1 = some .local)
    (h : ∀ g L' h₁, Fr h₀ L g m → Fr g L' h₁ (fun y => binds.reverse.lookup y) → News g L' h₁ news → Below A base (env :: outer) g → K.In g → Top p loose mean mg mb g →
      wpC (model prog w) (A.deeper (envOf qual scope L' f cdv)) (execs body (envOf qual scope L' f cdv))
        (fun fl s' => LeaveK h₀ L m g R (match fl with | .ret v => v | _ => .none) s')
        (fun e s' => wpAny (model prog w) (A.deeper (envOf qual scope L' f cdv)) (leaving (envOf qual scope L' f cdv) e) (fun _ s'' => R (.error e) s'') (fun e' s'' => R (.error e') s'') s')
        { s with heap := h₁, toks := s.toks + binds.length })
    (hco : scope.isCoroutine = false) (hgen : scope.isGenerator = false) (hk : scope.kind = .function)
    (hcell : ∀ x ∈ scope.names, x.2 ≠ .cell) : codeC (model prog w) A (.call (.ref f) args) R s := by
  obtain ⟨FG, BG, st, lv⟩ := groundX (R := R) B F N hA hf hke
  refine codeC_call_function hroom ((X₀.keeps F.keep) _ _ ho) rfl hco hgen rfl (codeRec_of (X₀.keeps F.keep) hcd) (hbind _ _ _ _ ?_)
  refine wpAny_newFunctionEnv hcell hloc (fun h₁ hns hsb => ⟨(T.nolimit.keeps F.keep).fresh _ hsb, codeC_func ?_⟩) hk
  have hk₁ : ∀ b o, s.heap.get? b = some o → h₁.get? b = some o := fun b o e => hsb.extBut b o (Nat.ne_of_lt (Heap.lt_size e)) (Heap.get?_push_of_some _ e)
  exact wpC_mono (h _ s.heap.objs.size h₁ FG ⟨hns, fun b o e => hk₁ b o (of_hideAll _ e), Nat.le_of_eq (hideAll_size _ _)⟩
    (fun p hp => ⟨hk₁ _ _ (N p hp).1, Nat.ne_of_lt (Heap.lt_size (N p hp).1), hideAll_none _ (List.mem_map_of_mem hp)⟩) BG (X₀.keeps st) (T.keeps st)) (fun fl s' hl => lv _ _ hl) fun _ _ y => y
end
end Mine
end
section
open PySem PySem.W PyProof.Rows
set_option maxRecDepth 100000
namespace Mine
open PySem.Sem (wp)
open PySem.Calls PySem.Builtin
section
variable {prog : Program} {w : World} {A : Around} {E : Value → Shared → Prop} {s : Shared} {b : Array UInt8} {v : Value} {Q : Value → Shared → Prop} {value slice : PySem.Expr}
theorem oct_isi_str (hv : OctV s.heap b v) (hQ : Q (.bool false) { s with toks := s.toks + 1 }) : wpAny (model prog w) A (call (.builtin "isinstance") [v, .type "str"]) Q E s := by
  cases hv with
  | bytes t => exact isi_by_str hQ
  | ba e => exact isi_ba_str e hQ
theorem oct_len (hv : OctV s.heap b v) (hfit : b.size ≤ 1099511627776) (hQ : Q (.int b.size (s.toks + 1)) { s with toks := s.toks + 1 + 1 }) : wpAny (model prog w) A (call (.builtin "len") [v]) Q E s := by
  cases hv with
  | bytes t => exact len_bytes hfit hQ
  | ba e => exact ba_len e hfit hQ
theorem oct_contains0 {t : Tok} (hv : OctV s.heap b v) (hQ : Q (.bool (b.contains 0)) s) : wpAny (model prog w) A (compareOp .In (.int 0 t) v) Q E s := by
  cases hv with
  | bytes u => exact by_contains0 hQ
  | ba e => exact ba_contains0 e hQ
theorem oct_item {i : Int} {u : Tok} {c : UInt8} (hv : OctV s.heap b v) (h0 : 0 ≤ i) (h1 : i < b.size) (hfit : b.size ≤ 1099511627776) (hc : b[i.toNat]? = some c)
    (hQ : ∀ t k, Q (.int (c.toNat : Int) t) { s with toks := k })
    (hs : ∀ v', subscripted slice false v' (.int i u) = operate [v', .int i u] (getItem v' (.int i u)) := by intro _; with_unfolding_all rfl) (ht : ∀ v' r, letTemporaryGo value v' r = pure () := by intro _ _; with_unfolding_all rfl) :
    wpAny (model prog w) A (subscriptTail value slice v (.int i u)) Q E s := by
  cases hv with
  | bytes t =>
    have g : wpAny (model prog w) A (getItem (.bytes b t) (.int i u)) Q E s := by
      refine getItem_gives (typeIs_bytes s _ t) (by decide) FB.slot_bytes_getitem FB.entry_bytes_getitem (FB.args_bytes_getitem_2 _ _) (gives_bytes_getitem _ i t u c ?_ ?_) ?_
      · simp only [Bytes.fitsIndex, Bool.and_eq_true, decide_eq_true_eq]; omega
      · have h2 : ¬ i < 0 := by omega
        rw [show seqIndex? i b.size = some i.toNat from by simp [seqIndex?, h2, h0, h1]]
        exact hc
      · exact hQ _ _
    exact tail_of_ItemOn ⟨"bytes", _, FB.slot_bytes_getitem.lookup, typeIs_bytes _ _ _, g⟩ (hs _) (ht _)
  | ba e => exact tail_of_ItemOn ⟨"bytearray", _, F.slot_getitem.lookup, ba_typeIs e, ba_getItem e h0 h1 hfit hc (hQ _ _)⟩ (hs _) (ht _)
/-- a cut: new bytes, or a new bytearray -/
theorem oct_slice {d : Addr} {l u : Value} {lo hi : Option Int} (hv : OctV s.heap b v) (hd : s.heap.IsSliceOf d l u .none) (hl : IsPart l lo) (hu : IsPart u hi) (hz : b.size ≤ 1000000)
    (hQ : ∀ v' h' k, OctV h' (KBy.picked b lo hi) v' → (∀ q o, s.heap.get? q = some o → h'.get? q = some o) → (∀ q o, s.heap.get? q = some o → v' ≠ .ref q) → Q v' { s with heap := h', toks := k })
    (hs : ∀ v', subscripted slice false v' (.ref d) = operate [.ref d, v'] (getItem v' (.ref d)) := by intro _; with_unfolding_all rfl) (ht : ∀ v' r, letTemporaryGo value v' r = pure () := by intro _ _; with_unfolding_all rfl) :
    wpAny (model prog w) A (subscriptTail value slice v (.ref d)) Q E s := by
  have hsz := KBc.size_picked_le b lo hi
  have hz' : (KBy.picked b lo hi).size ≤ sizeLine := by rw [sizeLine_eq]; omega
  cases hv with
  | bytes t =>
    exact tail_of_ItemOn ⟨"bytes", _, FB.slot_bytes_getitem.lookup, typeIs_bytes _ _ _, getItem_meets (typeIs_bytes _ _ _) (by decide) FB.slot_bytes_getitem FB.entry_bytes_getitem (FB.args_bytes_getitem_2 _ _) (KBc.meets_slice2 b t _ hl hu)
      ⟨hd, hz', fun t' k => hQ _ _ _ (.bytes t') (fun _ _ x => x) (fun _ _ _ h => nomatch h)⟩⟩ (hs _) (ht _)
  | ba e =>
    refine tail_of_ItemOn ⟨"bytearray", _, F.slot_getitem.lookup, ba_typeIs e, ba_slice e hd hl hu hz' ?_⟩ (hs _) (ht _)
    exact hQ _ _ s.toks (.ba (Heap.get?_push_size _ rfl)) (fun _ _ x => Heap.get?_push_of_some _ x) (fun q o x h => by
      have h1 := Heap.lt_size x
      injection h with h2
      rw [← h2] at h1
      exact Nat.lt_irrefl _ h1)
end
end Mine
end
section
open PySem PySem.W PyProof.Rows
set_option maxRecDepth 100000
namespace Mine
section
variable {prog : Program} {w : World} {A : Around} {E : Value → Shared → Prop} {s : Shared} {env : Env} {Q : Flow → Shared → Prop}
/-- a while whose test holds at every turn: it is left by break, return or raise -/
theorem wpC_While_inv {test body pos} (I : Nat → Shared → Prop) (hE : PassesOwn (model prog w) A env E)
    (turn : ∀ n s, I n s → wpAny (model prog w) A (isTrue test env (eval test env)) (fun b s₂ => b = true ∧ wpC (model prog w) A (execs body env) (fun f s₃ => match f with
            | .next | .cont => ∃ m, m < n ∧ I m s₃
            | .brk => Q .next s₃
            | .ret v => Q (.ret v) s₃) E s₂) E s)
    (n : Nat) (h : I n s) : wpC (model prog w) A (exec (.While test body [] pos) env) Q E s := by
  refine wpC_While (codeC_whileLoop I (fun n s hI => ?_) n h)
  refine wpAny_mono (turn n s hI) (fun b s₂ h₂ => ?_) hE
  obtain ⟨rfl, h₂⟩ := h₂
  simp only [if_true]
  exact wpC_mono h₂ (fun f s₃ h₃ => by cases f <;> exact h₃) hE
theorem raised_sub {base : Heap} {l : List Env} {e : Addr} {cls : Value} {t : Addr} {vs : List Value} {news news' : List (Addr × Obj)} {h : Heap} (R : RaisedK base l e cls t vs news h) (hs : ∀ q ∈ news', q ∈ news) : RaisedK base l e cls t vs news' h := by
  obtain ⟨⟨B, h1, h2, h3⟩, h4⟩ := R
  exact ⟨⟨B, h1, fun q hq => h2 q (hs q hq), h3⟩, h4⟩
/-- a new value of octets goes onto the ledger, if it is an object -/
theorem oct_ledger {g h h8 : Heap} {L' O : Addr} {mm : Str → Option Value} {x : Obj} {news : List (Addr × Obj)} {c2 : Array UInt8} {v2 : Value} (F : Fr g L' h mm) (N : News g L' h ((O, x) :: news)) (kp : ∀ q o, h.get? q = some o → h8.get? q = some o)
    (hv : OctV h8 c2 v2) (nr : ∀ q o, h.get? q = some o → v2 ≠ .ref q) :
    ∃ ex : List (Addr × Obj), News g L' h8 ((O, x) :: (ex ++ news)) ∧ (∀ p ∈ ex, p.1 ≠ O) ∧ ∀ {h' : Heap} {y : Addr × Obj}, News g L' h' (y :: (ex ++ news)) → OctV h' c2 v2 := by
  have up : ∀ p ∈ (O, x) :: news, h8.get? p.1 = some p.2 ∧ p.1 ≠ L' ∧ g.get? p.1 = none := fun p hp => ⟨kp _ _ (N p hp).1, (N p hp).2⟩
  cases hv with
  | bytes t => exact ⟨[], up, fun p hp => (nomatch hp), fun _ => .bytes t⟩
  | ba e =>
    rename_i d
    have hd : h.get? d = none := by
      cases q : h.get? d with
      | none => rfl
      | some o => exact absurd rfl (nr d o q)
    have hO : d ≠ O := fun q => by have := (N _ (.head _)).1; rw [← q, hd] at this; cases this
    have hL : d ≠ L' := fun q => by
      obtain ⟨oL, _, _, hL, _⟩ := F.ns
      rw [← q, hd] at hL; cases hL
    have hg : g.get? d = none := by
      cases q : g.get? d with
      | none => rfl
      | some o => have := F.keep d o q; rw [hd] at this; cases this
    refine ⟨[(d, baObj c2)], fun p hp => ?_, fun p hp => by rw [List.mem_singleton.mp hp]; exact hO, fun n => .ba (n _ (.tail _ (.head _))).1⟩
    rcases List.mem_cons.mp hp with rfl | hp
    · exact up _ (.head _)
    · rcases List.mem_cons.mp hp with rfl | hp
      · exact ⟨e, hL, hg⟩
      · exact up _ (.tail _ hp)
theorem ledger_upd {g h h' : Heap} {L' O : Addr} {mm : Str → Option Value} {x x' : Obj} {rest : List (Addr × Obj)} (F : Fr g L' h mm) (N : News g L' h ((O, x) :: rest)) (hs : Heap.SameBut O h h') (e : h'.get? O = some x') (hO : ∀ p ∈ rest, p.1 ≠ O) :
    Fr g L' h' mm ∧ News g L' h' ((O, x') :: rest) := by
  have hOL : O ≠ L' := (N _ (.head _)).2.1
  have hOg : g.get? O = none := (N _ (.head _)).2.2
  refine ⟨⟨F.ns.at' fun o q => hs.extBut L' o (Ne.symm hOL) q, fun b o q => hs.extBut b o (fun z => by rw [z, hOg] at q; cases q) (F.keep b o q), F.above⟩, fun p hp => ?_⟩
  rcases List.mem_cons.mp hp with rfl | hp
  · exact ⟨e, hOL, hOg⟩
  · exact ⟨hs.extBut _ _ (hO p hp) (N p (.tail _ hp)).1, (N p (.tail _ hp)).2⟩
theorem cut_eq {b : Array UInt8} {idx : Nat} {c : UInt8} (hi : idx < b.size) (hc : c ≠ 0) : (KBy.picked b (some ((idx : Int) + 1)) (some ((idx : Int) + 1 + (c.toNat : Int) - 1))).toList = (b.toList.drop (idx + 1)).take (c.toNat - 1) := by
  have hcn : c.toNat ≠ 0 := fun e => hc (UInt8.toNat_inj.mp e)
  rw [show ((idx : Int) + 1 + (c.toNat : Int) - 1) = ((idx + c.toNat : Nat) : Int) from by omega, show ((idx : Int) + 1) = ((idx + 1 : Nat) : Int) from by omega, KBc.picked_eq]
  simp only [Option.elim, clipAt_nat]
  have h1 : min (idx + 1) b.size = idx + 1 := by omega
  rw [h1]
  by_cases h2 : idx + c.toNat ≤ b.size
  · rw [show min (idx + c.toNat) b.size - (idx + 1) = c.toNat - 1 from by omega]
  · rw [List.take_of_length_le (l := b.toList.drop (idx + 1)) (i := c.toNat - 1) (by simp; omega), List.take_of_length_le (by simp; omega)]
theorem map_named {m : Str → Option Value} {x : Str} {v : Value} (h : m x = some v) : m = fun y => if y = x then some v else m y := by
  funext y
  by_cases e : y = x
  · rw [if_pos e, e, h]
  · rw [if_neg e]
end
end Mine
end
section
open PySem PySem.W PyProof.Rows
set_option maxRecDepth 100000
namespace Mine
open PySem.Calls PySem.Builtin
namespace F
theorem noGetattr : typeLookup (.type "bytearray") "__getattr__" = pure none := by rw [typeLookup_type, builtinLookup_eq_fast]; kernel_rfl
theorem canon_ga : (Manifest.canonical "bytearray.__getattribute__" != "object.__getattribute__") = false := by decide +kernel
theorem type_append : typeOf (.builtin "bytearray.append") = pure (.type "method_descriptor") := by show builtinType _ = _; rw [builtinType_eq_fast]; kernel_rfl
end F
section
variable {M : Model} {A : Around} {E : Value → Shared → Prop} {s : Shared} {env : Env}
theorem wpC_MethodCall {o : Expr} {name : Str} {apos pos : Pos} {args : List Expr} {pl : Sem Bool} {Q : Value → Shared → Prop}
    (h : wpAny M A (eval o env) (fun ov s₁ => wpAny M A (getMethod ov name pl) (fun fx s₂ => wpC M A (callWith pos fx.1 fx.2 (backTo pos (starEach args env)) []) Q E s₂) E s₁) E s)
    (he : eval (.Call (.Attribute o name apos) args [] pos) env = (do
      let ov ← eval o env
      standAt apos.atName
      let (f, first) ← holding [ov] (getMethod ov name pl)
      callWith pos f first (backTo pos (starEach args env)) []) := by rfl) :
    wpC M A (eval (.Call (.Attribute o name apos) args [] pos) env) Q E s := by
  rw [he]
  exact wpC_lift (wpAny_mono h (fun ov s₁ h₁ => wpC_standAt (wpC_lift (wpAny_holding (wpAny_mono h₁ (fun fx s₂ h₂ => h₂) fun _ _ x => x)))) fun _ _ x => x)
theorem ba_getMethod {a : Addr} {b : Array UInt8} {pl : Sem Bool} {Q : Value × List Value → Shared → Prop} (h : s.heap.get? a = some (baObj b)) (hQ : Q (.builtin "bytearray.append", [.ref a]) s) :
    wpAny M A (getMethod (.ref a) (Str.ofString "append") pl) Q E s := by
  unfold getMethod
  refine wpAny_bind (wpAny_specialOf (ba_typeIs h) F.slot_ga.lookup ?_)
  dsimp only
  rw [F.canon_ga]
  refine wpAny_ite (KBy.ite_no Bool.false_ne_true ?_)
  refine wpAny_bind (wpAny_specialOf (ba_typeIs h) F.noGetattr ?_)
  refine wpAny_ite (KBy.ite_no Bool.false_ne_true ?_)
  refine wpAny_bind (wpAny_specialOf (ba_typeIs h) F.slot_append.lookup ?_)
  dsimp only
  refine wpAny_bind (wpAny_of_eq F.type_append ?_)
  refine wpAny_ite (KBy.ite_no (by decide) ?_)
  refine wpAny_bind (wpAny_loadPart h ?_)
  exact wpAny_bind (wpAny_rule (wpAny_pure hQ))
theorem map3 {m : Str → Option Value} {x₁ x₂ x₃ : Str} {v₁ v₂ v₃ : Value} (h₁ : m x₁ = some v₁) (h₂ : m x₂ = some v₂) (h₃ : m x₃ = some v₃) :
    m = fun y => if y = x₁ then some v₁ else if y = x₂ then some v₂ else if y = x₃ then some v₃ else m y := by
  funext y
  by_cases e₁ : y = x₁
  · rw [if_pos e₁, e₁, h₁]
  · rw [if_neg e₁]
    by_cases e₂ : y = x₂
    · rw [if_pos e₂, e₂, h₂]
    · rw [if_neg e₂]
      by_cases e₃ : y = x₃
      · rw [if_pos e₃, e₃, h₃]
      · rw [if_neg e₃]
theorem turn_fr {g h : Heap} {L' : Addr} {m : Str → Option Value} {x₁ x₂ x₃ : Str} {i j : Int} {t : Tok} {v₂ v₃ : Value} (F : Fr g L' h m) (h₁ : m x₁ = some (.int i t)) (hij : i = j) (h₂ : m x₂ = some v₂) (h₃ : m x₃ = some v₃) :
    Fr g L' h (fun y => if y = x₁ then some (.int j t) else if y = x₂ then some v₂ else if y = x₃ then some v₃ else m y) := by
  rw [← map3 (hij ▸ h₁) h₂ h₃]; exact F
end
end Mine
end
section
open PySem PySem.W PyProof.Rows
set_option maxRecDepth 100000
namespace Mine
open PySem.Sem (wp)
open PySem.Calls
set_option maxHeartbeats 4000000 in
theorem decode_call {w : World} {mean : ExcName → Option Value} {mg mb : Str → Option Value} {A A₀ : Around} {env : Env} {outer : List Env} {base h₀ : Heap} {L : Addr} {m : Str → Option Value} {news : List (Addr × Obj)} {s : Shared} {v : Value} {b : Array UInt8} {Q E : Value → Shared → Prop}
    (B : Below A₀ base outer h₀) (F : Fr h₀ L s.heap m) (X : (hd.heap_39 w.params).In h₀) (N : News h₀ L s.heap news) (T : Top hd.view_39 (looseW hd.view_39 []) mean mg mb h₀)
    (hA : A.frames = some (env :: outer)) (hf : env.frame = some L) (hke : env.scope.kind = .function) (hh : A.handled = none) (hg : A.guards = some []) (hroom : A.depth < recursionLimit)
    (hv : (∃ t, v = .bytes b t) ∨ (∃ d, v = .ref d ∧ (d, baObj b) ∈ news)) (hb : b.size ≤ 1000000)
    (ret : ∀ t h' tk tk', rd 0 false [] b.toList = some t → Fr h₀ L h' m → News h₀ L h' news → Q (.bytes t.toArray tk) { s with heap := h', toks := tk' })
    (exc : ∀ e t vs h' tk' g, rd 0 false [] b.toList = none → Fr h₀ L g m → RaisedK base (env :: outer) e (.ref 24) t vs news h' → g.UpToSlots h' → E (.ref e) { s with heap := h', toks := tk' }) :
    wpC (model Challenge.rw_nc0004_01.row.prog w) A (call (.ref 34) [v]) Q E s := by
  w_on
  revert X
  k_fill
  intro X
  refine wpC_call ?_
  k_dflt (refine' codeC_def (binds := [(Str.ofString "in_bytes", v)]) ?k1 ?k2 ?k3 ?k4 ?k5 ?kA ?kF ?kK ?k6 ?k7 ?k8 ?k9 ?kB ?_ ?c2 ?c3 ?c4 ?c5; (case kA => exact hA); (case kF => exact hf); (case kK => exact hke); (case k1 => exact B); (case k2 => exact F); (case k3 => exact X); (case k4 => exact N); (case k5 => exact T); (case k6 => k_is); (case k7 => k_is); (case k8 => exact hroom); (case k9 => exact BindsTo.of_eq rfl); (case c5 => decide); (case kB => exact locs rfl); (case c2 => exact rfl); (case c3 => exact rfl); (case c4 => exact rfl))
  intro g L' h₁ FG F' N' B' X' T'
  have hO : ∀ {h : Heap}, News g L' h news → OctV h b v := fun {h} n => by
    rcases hv with ⟨t, rfl⟩ | ⟨d, rfl, hm⟩
    · exact .bytes t
    · exact .ba (n _ hm).1
  dsimp only at F' ⊢
  refine wpC_execs_any ?_
  iterate 10 walk1
  refine oct_isi_str (hO N') ?_
  iterate 4 (first | (k_unfold; (try dsimp only)) | (k_end; wrow_close) | walk1 | (dsimp only; walk1))
  refine wpC_execs_any ?_
  iterate 3 walk1
  dsimp only
  refine wpC_execs_cons (wpC_Assign_Name ?_)
  rw [arm_eval_Call_Name']
  refine wpC_lift ?_
  walk1
  refine wpC_callWith_machine rfl rfl ?_
  refine wpAny_pure ?_
  rename Fr g L' _ _ => F2
  rename News g L' _ _ => N2
  refine ba_make0 hg fun h3 e3 keep3 => ?_
  have F3 := Fr.keeps F2 keep3
  have N3 := news_pushed (s := ⟨_, _, _, _, _⟩) F2 N2 keep3 e3 rfl
  have hfresh : ∀ q ∈ news, q.1 ≠ _ := fun q hq => Nat.ne_of_lt (Heap.lt_size (N2 q hq).1)
  generalize hOa : (Array.size _ : Nat) = O at F3 N3 e3 hfresh ⊢
  refine stN F3 N3 (fun h4 F4 N4 => ?_)
  clear F3 N3 e3 keep3 F2 N2
  dsimp only
  refine wpC_execs_any ?_
  iterate 3 walk1
  dsimp only
  rename Fr g L' _ _ => F5
  rename News g L' _ _ => N5
  refine wpC_execs_cons (wpC_mono (Q := fun f s' => f = .next ∧ ∃ h tk mm out, s' = { s with heap := h, toks := tk } ∧ Fr g L' h mm ∧ News g L' h ((O, baObj out) :: news) ∧ mm (Str.ofString "out_bytes") = some (.ref O) ∧ rd 0 false [] b.toList = some out.toList ∧ out.size ≤ b.size) ?_ ?_ (fun _ _ x => x))
  case refine_2 =>
    rintro f s' ⟨rfl, h, tk, mm, out, rfl, F6, N6, hm, hrd, hsz⟩
    clear F5 N5
    rw [map_named hm] at F6
    dsimp only
    refine wpC_of ?_
    iterate 8 walk1
    refine by_of_ba (N6 _ (.head _)).1 (by rw [sizeLine_eq]; omega) fun t k => ?_
    refine leaveK_ F6 N6 fun kF kN => ?_
    have hr := ret out.toList _ t k hrd kF (fun q hq => kN q (.tail _ hq))
    rw [Array.toArray_toList] at hr
    exact hr
  · refine wpC_If ?_
    iterate 7 walk1
    refine oct_len (hO fun q hq => N5 q (.tail _ hq)) (by omega) ?_
    iterate 3 walk1
    by_cases hb0 : b.size = 0
    · rw [if_neg (by simp [hb0])]
      refine wpC_execs_nil ⟨rfl, _, _, _, #[], rfl, F5, N5, rfl, ?_, Nat.zero_le _⟩
      rw [show b.toList = [] from by simpa using Array.eq_empty_of_size_eq_zero hb0]
      rfl
    rw [if_pos (by simp; omega)]
    refine wpC_execs_cons (wpC_mono (Q := fun f s' => f = .next ∧ ∃ h tk mm out, s' = { s with heap := h, toks := tk } ∧ Fr g L' h mm ∧ News g L' h ((O, baObj out) :: news) ∧ mm (Str.ofString "out_bytes") = some (.ref O) ∧ rd 0 false [] b.toList = some out.toList ∧ out.size ≤ b.size) ?_ (fun f s' hq => by obtain ⟨rfl, hq⟩ := hq; exact wpC_execs_nil ⟨rfl, hq⟩) (fun _ _ x => x))
    refine wpC_While_inv (fun n s' => ∃ (h : Heap) (tk : Nat) (u : Str → Option Value) (idx : Nat) (ti : Tok) (nt : Bool) (told : List UInt8) (out : Array UInt8), s' = { s with heap := h, toks := tk } ∧ Fr g L' h (fun y => if y = Str.ofString "idx" then some (.int ((idx : Nat) : Int) ti) else if y = Str.ofString "out_bytes" then some (.ref O) else if y = Str.ofString "in_bytes_mv" then some v else u y) ∧ News g L' h ((O, baObj out) :: news) ∧ idx < b.size ∧ out.toList = (if nt then told ++ [0] else told) ∧ rd 0 false [] b.toList = rd 0 nt told (b.toList.drop idx) ∧ out.size ≤ idx ∧ n = b.size - idx) ?hE ?_ b.size ⟨_, _, _, 0, _, false, [], #[], rfl, F5, N5, by omega, rfl, rfl, Nat.zero_le _, rfl⟩
    case hE => passes_own
    clear F5 N5
    rintro n s' ⟨h, tk, u, idx, ti, nt, told, out, rfl, F6, N6, hidx, hout, hrd, hsz, rfl⟩
    obtain ⟨c, hc⟩ : ∃ c, b[idx]? = some c := ⟨b[idx], by simp [hidx]⟩
    have hdrop : b.toList.drop idx = c :: b.toList.drop (idx + 1) := by
      rw [List.drop_eq_getElem_cons (by simpa using hidx)]
      congr 1
      have := hc
      rw [Array.getElem?_eq_some_iff] at this
      obtain ⟨_, e⟩ := this
      simpa using e
    rw [hdrop] at hrd
    iterate 3 walk1
    refine ⟨rfl, ?_⟩
    have nv : ∀ {h : Heap} {x : Addr × Obj}, News g L' h (x :: news) → OctV h b v := fun {h x} n => hO fun q hq => n q (.tail _ hq)
    refine wpC_execs_any ?_
    iterate 4 walk1
    refine oct_item (nv N6) (Int.natCast_nonneg _) (by omega) (by omega) (by simpa using hc) fun t1 k1 => ?_
    iterate 1 walk1
    dsimp only
    refine wpC_execs_any ?_
    iterate 6 walk1
    by_cases hc0 : c = 0
    · subst hc0
      refine (if_pos ?_).mpr ?_
      · rfl
      have hnone : rd 0 false [] b.toList = none := hrd.trans (rd_none_of_zero _ _ _)
      iterate 8 walk1
      exact exc _ _ _ _ _ g hnone FG (raised_sub (by assumption) fun q hq => .tail _ hq) (by assumption)
    refine (if_neg ?_).mpr ?_
    · have : c.toNat ≠ 0 := fun e => hc0 (UInt8.toNat_inj.mp e)
      simp; omega
    iterate 2 (first | (k_unfold; (try dsimp only)) | (k_end; wrow_close) | walk1 | (dsimp only; walk1))
    dsimp only
    refine wpC_execs_any ?_
    iterate 5 walk1
    dsimp only
    refine wpC_execs_any ?_
    iterate 9 walk1
    refine wpC_execs_any ?_
    iterate 9 walk1
    try dsimp only
    rename Fr g L' _ _ => F7
    rename News g L' _ _ => N7
    refine oct_slice (nv (N7.pushKeep _)) (Heap.IsSliceOf.new _ _ _ _) (.int _ _) (.int _ _) hb fun v2 h8 k8 ho8 kp8 nr8 => ?_
    have kp8' : ∀ q o, Heap.get? _ q = some o → h8.get? q = some o := fun q o e => kp8 q o (Heap.get?_push_of_some _ e)
    have F8 := Fr.keeps F7 kp8'
    obtain ⟨ex, N8, hexO, hv2⟩ := oct_ledger F7 N7 kp8' ho8 (fun q o e => nr8 q o (Heap.get?_push_of_some _ e))
    have hne2 : v2 ≠ .ref O := nr8 O _ (Heap.get?_push_of_some _ (N7 _ (.head _)).1)
    clear F7 N7 kp8 nr8 ho8 kp8'
    generalize hc2 : KBy.picked b _ _ = c2 at hv2
    try dsimp only
    refine stN F8 N8 (fun h9 F9 N9 => ?_)
    clear F8 N8
    dsimp only
    refine wpC_execs_any ?_
    iterate 4 walk1
    refine oct_contains0 (hv2 N9) ?_
    iterate 1 walk1
    have hcut : c2.toList = (b.toList.drop (idx + 1)).take (c.toNat - 1) := by rw [← hc2]; exact cut_eq hidx hc0
    have hcn : c.toNat ≠ 0 := fun e => hc0 (UInt8.toNat_inj.mp e)
    have hturn := hrd.trans (rd_turn nt told c (b.toList.drop (idx + 1)) hc0)
    have hc2z : c2.size ≤ c.toNat - 1 := by rw [← Array.length_toList, hcut, List.length_take]; omega
    by_cases hz : (0 : UInt8) ∈ (b.toList.drop (idx + 1)).take (c.toNat - 1)
    · refine (if_pos ?_).mpr ?_
      · rw [Array.contains_iff_mem, ← Array.mem_toList_iff, hcut]; exact hz
      have hnone : rd 0 false [] b.toList = none := by rw [hturn, if_pos (.inr hz)]
      iterate 8 walk1
      exact exc _ _ _ _ _ g hnone FG (raised_sub (by assumption) fun q hq => .tail _ (List.mem_append_right _ hq)) (by assumption)
    refine (if_neg ?_).mpr ?_
    · rw [Array.contains_iff_mem, ← Array.mem_toList_iff, hcut]; exact hz
    iterate 2 (first | (k_unfold; (try dsimp only)) | (k_end; wrow_close) | walk1 | (dsimp only; walk1))
    dsimp only
    refine wpC_execs_cons (wpC_AugAssign_Name ?_)
    refine ldn F9 rfl ?_
    iterate 1 walk1
    refine ba_iadd hg (N9 _ (.head _)).1 (hv2 N9) hne2 (by rw [sizeLine_eq]; have := c.toNat_lt; omega) fun h10 e10 hs10 => ?_
    have hoff : ∀ p ∈ ex ++ news, p.1 ≠ O := fun p hp => (List.mem_append.mp hp).elim (hexO p) (hfresh p)
    obtain ⟨F10, N10⟩ := ledger_upd F9 N9 hs10 e10 hoff
    clear F9 N9 hs10 e10
    try dsimp only
    refine stN F10 N10 (fun h11 F11 N11 => ?_)
    clear F10 N10
    dsimp only
    refine wpC_execs_any ?_
    iterate 3 walk1
    dsimp only
    refine wpC_execs_any ?_
    iterate 9 walk1
    have nv2 : ∀ {h : Heap} {x : Addr × Obj}, News g L' h (x :: (ex ++ news)) → OctV h b v := fun {h x} n => hO fun q hq => n q (.tail _ (List.mem_append_right _ hq))
    rename News g L' _ _ => N12
    rename Fr g L' _ _ => F12
    refine oct_len (nv2 N12) (by omega) ?_
    iterate 2 walk1
    have hrl : (b.toList.drop (idx + 1)).length = b.size - (idx + 1) := by simp
    by_cases hgt : b.size < idx + c.toNat
    · refine (if_pos ?_).mpr ?_
      · simp; omega
      have hnone : rd 0 false [] b.toList = none := by rw [hturn, if_pos (.inl (by omega))]
      iterate 8 walk1
      exact exc _ _ _ _ _ g hnone FG (raised_sub (by assumption) fun q hq => .tail _ (List.mem_append_right _ hq)) (by assumption)
    refine (if_neg ?_).mpr ?_
    · simp; omega
    rw [if_neg (by rintro (q | q); omega; exact hz q)] at hturn
    iterate 2 (first | (k_unfold; (try dsimp only)) | (k_end; wrow_close) | walk1 | (dsimp only; walk1))
    dsimp only
    refine wpC_execs_cons (wpC_If ?_)
    iterate 8 walk1
    refine oct_len (nv2 N12) (by omega) ?_
    iterate 2 walk1
    have hnews : ∀ {h : Heap} {x : Addr × Obj}, News g L' h (x :: (ex ++ news)) → News g L' h (x :: news) := fun {h x} n p hp => by
      rcases List.mem_cons.mp hp with rfl | hp
      · exact n _ (.head _)
      · exact n _ (.tail _ (List.mem_append_right _ hp))
    have hout2 : (out ++ c2).toList = (if nt then told ++ [0] else told) ++ (b.toList.drop (idx + 1)).take (c.toNat - 1) := by rw [Array.toList_append, hout, hcut]
    have hoz : (out ++ c2).size ≤ idx + c.toNat - 1 := by rw [Array.size_append]; omega
    rw [List.drop_drop, show idx + 1 + (c.toNat - 1) = idx + c.toNat from by omega] at hturn
    by_cases hlt : idx + c.toNat < b.size
    · refine (if_pos ?_).mpr ?_
      · simp; omega
      refine wpC_execs_cons (wpC_If ?_)
      iterate 5 walk1
      by_cases h255 : c.toNat < 255
      · refine (if_pos ?_).mpr ?_
        · simp; omega
        refine wpC_execs_cons (wpC_Expr (wpC_MethodCall ?_))
        iterate 1 walk1
        refine ba_getMethod (N12 _ (.head _)).1 ?_
        refine wpC_callWith_machine rfl rfl ?_
        refine evalArgs_plain (PySem.Calls.spliced_cons (wpAny_Constant_int (i := 0) (k := 0) (pos := ⟨0, 0, 0, 0⟩) (PySem.Calls.spliced_nil ?_)))
        dsimp only
        refine ba_append hg (N12 _ (.head _)).1 (by decide) (by decide) (by rw [sizeLine_eq]; omega) fun h13 e13 hs13 => ?_
        obtain ⟨F13, N13⟩ := ledger_upd F12 N12 hs13 e13 hoff
        dsimp only
        refine wpC_execs_nil ?_
        refine wpC_execs_nil ?_
        refine wpC_execs_nil ?_
        exact ⟨_, by omega, _, _, _, idx + c.toNat, _, true, _, (out ++ c2).push 0, rfl, turn_fr F13 rfl (by omega) rfl rfl, hnews N13, hlt, by rw [Array.toList_push, hout2]; rfl, by rw [hturn, decide_eq_true h255], by rw [Array.size_push]; omega, rfl⟩
      · refine (if_neg ?_).mpr ?_
        · simp; omega
        refine wpC_execs_nil ?_
        refine wpC_execs_nil ?_
        refine wpC_execs_nil ?_
        exact ⟨_, by omega, _, _, _, idx + c.toNat, _, false, _, out ++ c2, rfl, turn_fr F12 rfl (by omega) rfl rfl, hnews N12, hlt, hout2, by rw [hturn, decide_eq_false h255], by omega, rfl⟩
    refine (if_neg ?_).mpr ?_
    · simp; omega
    refine wpC_of ?_
    iterate 3 walk1
    dsimp only
    refine ⟨rfl, _, _, _, out ++ c2, rfl, F12, hnews N12, rfl, ?_, by omega⟩
    rw [hturn, show List.drop (idx + c.toNat) b.toList = [] from List.drop_of_length_le (by simp; omega), rd_nil, if_pos rfl, hout2]
end Mine
end
section
open PySem PySem.W PyProof.Rows
set_option maxRecDepth 100000
namespace Mine
open PySem.Sem (wp)
open PySem.Calls
/-- what the reader tells of the row -/
def DueIs (ns : List Int) (v : Value) : Prop := match rd 0 false [] (byteArr ns).toList with
  | some t => ∃ tok, v = .bytes t.toArray tok
  | none => v = .none
abbrev octInts (l : List UInt8) : List Int := l.map fun c => (c.toNat : Int)
theorem map3i {m : Str → Option Value} {x₁ x₂ x₃ : Str} {v₁ v₃ : Value} {i j : Int} {t : Tok} (h₁ : m x₁ = some v₁) (h₂ : m x₂ = some (.int i t)) (hij : i = j) (h₃ : m x₃ = some v₃) :
    m = fun y => if y = x₁ then some v₁ else if y = x₂ then some (.int j t) else if y = x₃ then some v₃ else m y := map3 h₁ (hij ▸ h₂) h₃
theorem end_told {g h : Heap} {L' Tl : Addr} {J : (Str → Option Value) → List (Addr × Obj) → Prop} {m' : Str → Option Value} {news own : List (Addr × Obj)} {vt : List Value} {x : Value} {k : Nat} {s₁ : Shared} {tk : Nat} {adr : List Addr}
    (F : Fr g L' h m') (N : News g L' h ((Tl, listOf (vt.toArray.push x) k) :: (news ++ own))) (ha : adr = Tl :: news.map (·.1)) (hj : J m' ((Tl, listOf (vt ++ [x]).toArray k) :: news)) : InvEndN g L' J own adr s₁ { s₁ with heap := h, toks := tk } := by
  rw [List.push_toArray] at N
  refine InvEndN.intro F N hj ha.symm (fun p hp => ?_) (fun p hp => .tail _ (List.mem_append_right _ hp))
  rcases List.mem_cons.mp hp with rfl | hp
  · exact .head _
  · exact .tail _ (List.mem_append_left _ hp)
theorem ints_snoc : ∀ {vs : List Value} {ns : List Int} (n : Int) (t : Tok), IntsAre vs ns → IntsAre (vs ++ [.int n t]) (ns ++ [n])
  | _, _, n, t, .nil => .cons n t .nil
  | _, _, n, t, .cons k u h => .cons k u (ints_snoc n t h)
set_option maxHeartbeats 4000000 in
theorem read_call {w : World} {mean : ExcName → Option Value} {mg mb : Str → Option Value} {A A₀ : Around} {env : Env} {outer : List Env} {base h₀ : Heap} {L : Addr} {m : Str → Option Value} {news : List (Addr × Obj)} {s : Shared} {R : Addr} {vs : List Value} {ns : List Int} {nn : Nat} {Q E : Value → Shared → Prop}
    (B : Below A₀ base outer h₀) (F : Fr h₀ L s.heap m) (X : (hd.heap_39 w.params).In h₀) (N : News h₀ L s.heap news) (T : Top hd.view_39 (looseW hd.view_39 []) mean mg mb h₀)
    (hA : A.frames = some (env :: outer)) (hf : env.frame = some L) (hke : env.scope.kind = .function) (hh : A.handled = none) (hroom : A.depth < recursionLimit)
    (hR : (R, listOf vs.toArray nn) ∈ news) (hi : IntsAre vs ns) (hr : ∀ n ∈ ns, 0 ≤ n ∧ n < 256) (hb : ns.length ≤ 1000000)
    (hQ : ∀ v' h' tk', DueIs ns v' → Fr h₀ L h' m → News h₀ L h' news → Q v' { s with heap := h', toks := tk' }) :
    wpAny (model Challenge.rw_nc0004_01.row.prog w) A (call (.ref 41) [.ref R]) Q E s := by
  w_on
  revert X
  k_fill
  intro X
  refine wpAny_call ?_
  k_dflt (refine' code_def (binds := [(Str.ofString "row", .ref R)]) ?k1 ?k2 ?k3 ?k4 ?k5 ?kA ?kF ?kK ?k6 ?k7 ?k8 ?k9 ?kB ?_ ?c2 ?c3 ?c4 ?c5; (case kA => exact hA); (case kF => exact hf); (case kK => exact hke); (case k1 => exact B); (case k2 => exact F); (case k3 => exact X); (case k4 => exact N); (case k5 => exact T); (case k6 => k_is); (case k7 => k_is); (case k8 => exact hroom); (case k9 => exact BindsTo.of_eq rfl); (case c5 => decide); (case kB => exact locs rfl); (case c2 => exact rfl); (case c3 => exact rfl); (case c4 => exact rfl))
  intro g L' h₁ FG F' N' B' X' T'
  dsimp only at F' ⊢
  iterate 16 (first | (k_unfold; (try dsimp only)) | (k_end; wrow_close) | walk1 | (dsimp only; walk1))
  rename ∀ p ∈ news, _ => hfresh0
  rename Fr g L' _ _ => F2
  rename News g L' _ _ => N2
  refine For_invVF F2 rfl rfl ?_
  iterate 1 (first | (k_unfold; (try dsimp only)) | (k_end; wrow_close) | walk1 | (dsimp only; walk1))
  have hbs : octInts (byteArr ns).toList = ns := KBa.ints_make hr
  generalize hbs' : (byteArr ns).toList = bs at hbs
  rename_i Tl e1 e2 e3 e4
  have hfresh : ∀ p ∈ news, p.1 ≠ Tl := fun p hp => Nat.ne_of_lt (hfresh0 p hp)
  refine iter_invNL (fun i m' nx => ∃ (told : List UInt8) (vt : List Value) (nt owing : Nat) (nought : Bool) (to : Tok) (u : Str → Option Value), nx = (Tl, listOf vt.toArray nt) :: news ∧ IntsAre vt (octInts told) ∧ m' = (fun y => if y = Str.ofString "nought" then some (.bool nought) else if y = Str.ofString "owing" then some (.int (owing : Int) to) else if y = Str.ofString "told" then some (.ref Tl) else u y) ∧ rd 0 false [] bs = rd owing nought told (bs.drop i) ∧ told.length ≤ i) hh (.tail _ hR) hi F2 N2 ⟨[], [], 0, 0, false, _, _, rfl, .nil, rfl, rfl, Nat.zero_le _⟩ ?_ ?_
  · clear F2 N2
    rintro i n t m₁ news₁ h tk own hn hadr hoff hin ⟨told, vt, nt, owing, nought, to, u, rfl, hvt, rfl, hrd, htl⟩ F3 N3
    have hlen : bs.length = ns.length := by rw [← hbs]; simp
    have hilt : i < bs.length := by
      rw [hlen]
      exact (List.getElem?_eq_some_iff.mp hn).1
    obtain ⟨c, hc⟩ : ∃ c, bs[i]? = some c := ⟨bs[i], by simp [hilt]⟩
    have hnc : n = (c.toNat : Int) := by
      rw [← hbs, List.getElem?_map, hc] at hn
      simpa using hn.symm
    subst hnc
    have hdrop : bs.drop i = c :: bs.drop (i + 1) := by
      rw [List.drop_eq_getElem_cons hilt]
      congr 1
      have := List.getElem?_eq_some_iff.mp hc
      exact this.2
    rw [hdrop, rd_cons] at hrd
    have hoffT : ∀ p ∈ news ++ own, p.1 ≠ Tl := fun p hp => (List.mem_append.mp hp).elim (hfresh p) fun hp => hoff p hp Tl (.head _)
    rw [List.cons_append] at N3
    iterate 7 (first | (k_unfold; (try dsimp only)) | (k_end; wrow_close) | walk1 | (dsimp only; walk1))
    have hns : ∀ {h : Heap} {x : Addr × Obj}, News g L' h (x :: (news ++ own)) → News g L' h news := fun {h x} n p hp => n p (.tail _ (List.mem_append_left _ hp))
    by_cases hc0 : c = 0
    · subst hc0
      refine (if_pos rfl).mpr ?_
      rw [if_pos rfl] at hrd
      iterate 4 (first | (k_unfold; (try dsimp only)) | (k_end; wrow_close) | walk1 | (dsimp only; walk1))
      dsimp only [InvPostN]
      refine leaveK_ F3 N3 fun kF kN => hQ _ _ _ ?_ kF (fun p hp => kN p (.tail _ (List.mem_append_left _ hp)))
      unfold DueIs
      rw [hbs', hrd]
    have hcn : c.toNat ≠ 0 := fun e => hc0 (UInt8.toNat_inj.mp e)
    refine (if_neg (by simp; omega)).mpr ?_
    rw [if_neg hc0] at hrd
    iterate 2 (first | (k_unfold; (try dsimp only)) | (k_end; wrow_close) | walk1 | (dsimp only; walk1))
    dsimp only
    iterate 7 (first | (k_unfold; (try dsimp only)) | (k_end; wrow_close) | walk1 | (dsimp only; walk1))
    by_cases how : 0 < owing
    · refine (if_pos (by simp; omega)).mpr ?_
      rw [if_pos how] at hrd
      iterate 10 (first | (k_unfold; (try dsimp only)) | (k_end; wrow_close) | walk1 | (dsimp only; walk1))
      refine append_K F3 N3 (Upd.head hoffT) (fun h4 F4 N4 => ?_) (by rw [List.size_toArray, hvt.length, List.length_map, sizeLine_eq]; omega)
      clear F3 N3
      dsimp only
      iterate 6 (first | (k_unfold; (try dsimp only)) | (k_end; wrow_close) | walk1 | (dsimp only; walk1))
      dsimp only
      refine wpAny_execs_nil ?_
      refine wpAny_execs_nil ?_
      rename Fr g L' _ _ => F5
      rename News g L' _ _ => N5
      rw [List.push_toArray] at N5
      refine InvEndN.intro (nx := (Tl, listOf (vt ++ [Value.int (c.toNat : Int) t]).toArray (nt + 1)) :: news) F5 N5 ⟨.tail _ hR, told ++ [c], _, _, owing - 1, nought, _, _, rfl, ?_, map3i rfl rfl (by omega) rfl, hrd, by simp; omega⟩ rfl (fun p hp => ?_) (fun p hp => .tail _ (List.mem_append_right _ hp))
      · rw [octInts, List.map_append]; exact ints_snoc _ _ hvt
      · rcases List.mem_cons.mp hp with rfl | hp
        · exact .head _
        · exact .tail _ (List.mem_append_left _ hp)
    · refine (if_neg (by simp; omega)).mpr ?_
      rw [if_neg how] at hrd
      iterate 6 (first | (k_unfold; (try dsimp only)) | (k_end; wrow_close) | walk1 | (dsimp only; walk1))
      cases nought with
      | true =>
        refine (if_pos rfl).mpr ?_
        iterate 9 (first | (k_unfold; (try dsimp only)) | (k_end; wrow_close) | walk1 | (dsimp only; walk1))
        refine append_K F3 N3 (Upd.head hoffT) (fun h4 F4 N4 => ?_) (by rw [List.size_toArray, hvt.length, List.length_map, sizeLine_eq]; omega)
        clear F3 N3
        dsimp only
        iterate 2 (first | (k_unfold; (try dsimp only)) | (k_end; wrow_close) | walk1 | (dsimp only; walk1))
        dsimp only
        iterate 15 (first | (k_unfold; (try dsimp only)) | (k_end; wrow_close) | walk1 | (dsimp only; walk1))
        dsimp only
        refine wpAny_execs_nil ?_
        rename Fr g L' _ _ => F5
        rename News g L' _ _ => N5
        refine end_told F5 N5 rfl ⟨.tail _ hR, told ++ [0], _, _, c.toNat - 1, decide (c.toNat < 255), _, _, rfl, ?_, map3i ?_ rfl (by omega) rfl, hrd, by simp; omega⟩
        · rw [octInts, List.map_append]; exact ints_snoc _ _ hvt
        · show some (Value.bool (decide ((c.toNat : Int) < 255))) = some (Value.bool (decide (c.toNat < 255)))
          congr 2
          exact decide_eq_decide.mpr (by omega)
      | false =>
        refine (if_neg Bool.false_ne_true).mpr ?_
        iterate 15 (first | (k_unfold; (try dsimp only)) | (k_end; wrow_close) | walk1 | (dsimp only; walk1))
        dsimp only
        refine wpAny_execs_nil ?_
        refine wpAny_execs_nil ?_
        rename Fr g L' _ _ => F5
        rename News g L' _ _ => N5
        refine InvEndN.intro (nx := (Tl, listOf vt.toArray nt) :: news) F5 N5 ⟨.tail _ hR, told, _, _, c.toNat - 1, decide (c.toNat < 255), _, _, rfl, hvt, map3i ?_ rfl (by omega) rfl, hrd, by omega⟩ rfl (fun p hp => ?_) (fun p hp => .tail _ (List.mem_append_right _ hp))
        · show some (Value.bool (decide ((c.toNat : Int) < 255))) = some (Value.bool (decide (c.toNat < 255)))
          congr 2
          exact decide_eq_decide.mpr (by omega)
        · rcases List.mem_cons.mp hp with rfl | hp
          · exact .head _
          · exact .tail _ (List.mem_append_left _ hp)
  · clear F2 N2
    rintro m₁ news₁ h tk hin ⟨told, vt, nt, owing, nought, to, u, rfl, hvt, rfl, hrd, htl⟩ F3 N3
    have hlen : bs.length = ns.length := by rw [← hbs]; simp
    rw [List.drop_of_length_le (by omega), rd_nil] at hrd
    dsimp only
    iterate 8 (first | (k_unfold; (try dsimp only)) | (k_end; wrow_close) | walk1 | (dsimp only; walk1))
    by_cases ho0 : owing = 0
    · refine (if_pos (by simp [ho0])).mpr ?_
      rw [if_pos ho0] at hrd
      iterate 6 (first | (k_unfold; (try dsimp only)) | (k_end; wrow_close) | walk1 | (dsimp only; walk1))
      refine KBa.make_K F3 N3 hh (News.isList N3 (.head _)) hvt (fun n hn => KBw.ints_in (b := told.toArray) (by simpa [KBw.bInts] using hn)) (by rw [List.length_map]; omega) fun h4 t4 k4 F4 N4 _ => ?_
      refine leaveK_ F4 N4 fun kF kN => hQ _ _ _ ?_ kF (fun p hp => kN p (.tail _ hp))
      unfold DueIs
      rw [hbs', hrd]
      refine ⟨t4, ?_⟩
      show Value.bytes (byteArr (octInts told)) t4 = Value.bytes told.toArray t4
      congr 1
      unfold byteArr
      rw [List.map_map]
      congr 1
      conv => rhs; rw [← List.map_id told]
      refine List.map_congr_left fun c _ => ?_
      simp
    · refine (if_neg (by simp [ho0])).mpr ?_
      rw [if_neg ho0] at hrd
      iterate 1 (first | (k_unfold; (try dsimp only)) | (k_end; wrow_close) | walk1 | (dsimp only; walk1))
      dsimp only
      refine leaveK_ F3 N3 fun kF kN => hQ _ _ _ ?_ kF (fun p hp => kN p (.tail _ hp))
      unfold DueIs
      rw [hbs', hrd]
end Mine
end
section
open PySem PySem.W PyProof.Rows
set_option maxRecDepth 100000
namespace Mine
open PySem.Sem (wp)
open PySem.Calls
namespace FL
theorem seq_liadd : isSeqSlot (some (.builtin "list.__iadd__")) = true := by decide +kernel
theorem look_liadd : typeLookup (.type "list") (dunderI "add") = pure (some (.builtin "list.__iadd__")) := PySem.F.slot_list_iadd.lookup
theorem noFillI : fillsInplaceSlot (.type "list") "add" (Operator.Add == .Add) = pure false := by
  unfold fillsInplaceSlot
  show (typeLookup (.type "list") (dunderI "add") >>= fun fi => pure (fi.isSome && !isSeqSlot fi)) = pure false
  rw [look_liadd]
  show (pure (_ && !isSeqSlot (some (.builtin "list.__iadd__"))) : Sem Bool) = pure false
  rw [seq_liadd]; rfl
theorem seqI : seqSlot? (.type "list") (dunderI "add") = pure (some (.builtin "list.__iadd__")) := PySem.seqSlot_of look_liadd seq_liadd
end FL
section
variable {prog : Program} {w : World} {A : Around} {E : Value → Shared → Prop} {s : Shared} {h₀ : Heap} {L D b : Addr} {m : Str → Option Value} {news rest : List (Addr × Obj)} {its its2 : Array Value} {n n2 : Nat}
theorem list_iadd {Q : Value → Shared → Prop} (hl : s.heap.get? D = some (listOf its n)) (hb : s.heap.get? b = some (listOf its2 n2)) (hz : its.size + its2.size ≤ 1000000)
    (hQ : ∀ h' n', h'.get? D = some (listOf (its ++ its2) n') → Heap.SameBut D s.heap h' → Q (.ref D) { s with heap := h' }) : wpAny (model prog w) A (inplaceOp .Add (.ref D) (.ref b)) Q E s := by
  have tD : s.TypeIs (.ref D) "list" := ⟨_, hl, rfl⟩
  unfold inplaceOp
  refine wpAny_holding ?_
  refine wpAny_bind (wpAny_typeOf tD (wpAny_bind (wpAny_of_eq FL.noFillI ?_)))
  show wpAny _ A (if false = true then _ else _) Q E s
  rw [if_neg Bool.false_ne_true]
  refine wpAny_bind (wpAny_binaryOp1_none (nm := "add") tD ⟨_, hb, rfl⟩ noFill_list_add ?_)
  refine wpAny_bind (wpAny_of_eq FL.seqI ?_)
  refine wpAny_bind (wpAny_rule ?_)
  refine call_meets PySem.F.slot_list_iadd tD PySem.F.entry_list_iadd (PySem.F.args_list_iadd_2 _ _) (AutoSeq1.list___iadd___list_list_0 D its n b its2 n2 ?_ (by rw [sizeLine_eq]; omega) (by rw [sizeLine_eq]; omega)) ⟨hl, hb, ?_⟩
  · intro h
    simp only [Bool.and_eq_true] at h
    have h2 := h.2
    unfold Builtin.List.listTooLong at h2
    simp only [decide_eq_true_eq, gt_iff_lt] at h2
    rw [sizeLine_eq] at h2
    omega
  · have hp : Obj.mapSeq (fun x => x ++ its2) (listOf its n) = listOf (its ++ its2) (if (its ++ its2).size == its.size then n else n + 1) := rfl
    exact hQ _ _ (by rw [Heap.get?_update_self _ hl (by rw [hp]; rfl), hp]) (Heap.SameBut.update ..)
theorem add_L {Q : Value → Shared → Prop} (F : Fr h₀ L s.heap m) (N : News h₀ L s.heap news) (hl : s.heap.get? D = some (listOf its n)) (hb : s.heap.get? b = some (listOf its2 n2)) (hz : its.size + its2.size ≤ 1000000)
    (hQ : ∀ C h', Fr h₀ L h' m → News h₀ L h' ((C, listOf (its ++ its2) 0) :: news) → (∀ p ∈ news, p.1 ≠ C) → Q (.ref C) { s with heap := h' }) : wpAny (model prog w) A (binaryOp .Add (.ref D) (.ref b)) Q E s := by
  refine P.add_list (n := n) (n2 := n2) hl hb ?_ (by rw [sizeLine_eq]; omega)
  have hk : ∀ b o, s.heap.get? b = some o → (s.heap.push (listOf (its ++ its2) 0)).get? b = some o := fun b o e => Heap.get?_push_of_some _ e
  exact hQ _ _ (F.keeps hk) (news_pushed F N hk (Heap.get?_push_size _ rfl) rfl) fun p hp => Nat.ne_of_lt (Heap.lt_size (N p hp).1)
def SliceAt (Q : Value → Shared → Prop) (o vl vu : Value) (s₃ : Shared) : Prop :=
  ∃ l items lo hi, o = .ref l ∧ s₃.heap.IsList l items ∧ items.size ≤ sizeLine ∧ IsPart vl lo ∧ IsPart vu hi ∧
    Q (.ref (s₃.heap.objs.size + 1)) { s₃ with heap := (s₃.heap.push { cls := .type "slice", data := .fields #[vl, vu, .none] }).push { cls := .type "list", data := .seq (slicePick items lo hi none) } }
theorem slice_end {Q : Value → Shared → Prop} {l : Addr} {lo hi : Option Int} {vl vu : Value} (F : Fr h₀ L s.heap m) (N : News h₀ L s.heap news) (hl : s.heap.IsList l its) (hz : its.size ≤ 1000000) (pl : IsPart vl lo) (pu : IsPart vu hi)
    (hQ : ∀ C h', Fr h₀ L h' m → News h₀ L h' ((C, listOf (slicePick its lo hi none) 0) :: news) → (∀ p ∈ news, p.1 ≠ C) → Q (.ref C) { s with heap := h' }) :
    SliceAt Q (.ref l) vl vu s := by
  refine ⟨l, its, lo, hi, rfl, hl, by rw [sizeLine_eq]; omega, pl, pu, ?_⟩
  have hk1 : ∀ b o, s.heap.get? b = some o → (s.heap.push { cls := .type "slice", data := .fields #[vl, vu, .none] }).get? b = some o := fun b o e => Heap.get?_push_of_some _ e
  have F1 := F.keeps hk1
  have N1 : News h₀ L (s.heap.push { cls := .type "slice", data := .fields #[vl, vu, .none] }) news := fun p hp => ⟨hk1 _ _ (N p hp).1, (N p hp).2⟩
  have hk : ∀ b o, (s.heap.push { cls := .type "slice", data := .fields #[vl, vu, .none] }).get? b = some o → ((s.heap.push { cls := .type "slice", data := .fields #[vl, vu, .none] }).push (listOf (slicePick its lo hi none) 0)).get? b = some o := fun b o e => Heap.get?_push_of_some _ e
  have hs : (s.heap.push { cls := .type "slice", data := .fields #[vl, vu, .none] }).objs.size = s.heap.objs.size + 1 := Heap.size_push ..
  exact hQ _ _ (F1.keeps hk) (news_pushed (s := { s with heap := _ }) F1 N1 hk (Heap.get?_push_size _ rfl) hs.symm) fun p hp => Nat.ne_of_lt (Nat.lt_succ_of_lt (Heap.lt_size (N p hp).1))
theorem slice_ints {Q : Value → Shared → Prop} {l : Addr} {lo hi : Option Int} {vl vu : Value} {vs : List Value} {ms : List Int} (F : Fr h₀ L s.heap m) (N : News h₀ L s.heap news) (hl : s.heap.IsList l vs.toArray) (hz : vs.length ≤ 1000000) (pl : IsPart vl lo) (pu : IsPart vu hi)
    (hm : IntsAre (slicePick vs.toArray lo hi none).toList ms)
    (hQ : ∀ C ws h', IntsAre ws ms → Fr h₀ L h' m → News h₀ L h' ((C, listOf ws.toArray 0) :: news) → (∀ p ∈ news, p.1 ≠ C) → Q (.ref C) { s with heap := h' }) :
    SliceAt Q (.ref l) vl vu s := by
  refine slice_end F N hl (by simpa using hz) pl pu fun C h' F' N' o' => ?_
  refine hQ C (slicePick vs.toArray lo hi none).toList h' hm F' ?_ o'
  rw [Array.toArray_toList]
  exact N'
theorem IntsAre.app : ∀ {vs ws : List Value} {ns ms : List Int}, IntsAre vs ns → IntsAre ws ms → IntsAre (vs ++ ws) (ns ++ ms)
  | _, _, _, _, .nil, h => h
  | _, _, _, _, .cons k u h, h' => .cons k u (IntsAre.app h h')
theorem add_ints {Q : Value → Shared → Prop} {vs ws : List Value} {ns ms : List Int} (F : Fr h₀ L s.heap m) (N : News h₀ L s.heap news) (hl : s.heap.get? D = some (listOf vs.toArray n)) (hb : s.heap.get? b = some (listOf ws.toArray n2)) (hi : IntsAre vs ns) (hj : IntsAre ws ms) (hz : ns.length + ms.length ≤ 1000000)
    (hQ : ∀ C us h', IntsAre us (ns ++ ms) → Fr h₀ L h' m → News h₀ L h' ((C, listOf us.toArray 0) :: news) → (∀ p ∈ news, p.1 ≠ C) → Q (.ref C) { s with heap := h' }) : wpAny (model prog w) A (binaryOp .Add (.ref D) (.ref b)) Q E s := by
  refine add_L F N hl hb (by have := hi.length; have := hj.length; simp; omega) fun C h' F' N' o' => hQ C (vs ++ ws) h' (IntsAre.app hi hj) F' ?_ o'
  simpa using N'
theorem iadd_ints {Q : Value → Shared → Prop} {vs ws : List Value} {ns ms : List Int} (F : Fr h₀ L s.heap m) (N : News h₀ L s.heap ((D, listOf vs.toArray n) :: rest)) (ho : ∀ p ∈ rest, p.1 ≠ D) (hb : s.heap.get? b = some (listOf ws.toArray n2)) (hi : IntsAre vs ns) (hj : IntsAre ws ms) (hz : ns.length + ms.length ≤ 1000000)
    (hQ : ∀ us n' h', IntsAre us (ns ++ ms) → Fr h₀ L h' m → News h₀ L h' ((D, listOf us.toArray n') :: rest) → Q (.ref D) { s with heap := h' }) : wpAny (model prog w) A (inplaceOp .Add (.ref D) (.ref b)) Q E s := by
  refine list_iadd (N _ (.head _)).1 hb (by have := hi.length; have := hj.length; simp; omega) fun h' n' e hs => ?_
  have := ledger_upd F N hs e ho
  refine hQ (vs ++ ws) n' h' (IntsAre.app hi hj) this.1 ?_
  simpa using this.2
theorem sub_slice {env : Env} {value : PySem.Expr} {lower upper : Option PySem.Expr} {p pos : Pos} {Q : Value → Shared → Prop}
    (h : wpAny (model prog w) A (eval value env) (fun o s₁ => wpAny (model prog w) A (evalPart lower env) (fun vl s₂ => wpAny (model prog w) A (evalPart upper env) (fun vu s₃ =>
      SliceAt Q o vl vu s₃) E s₂) E s₁) E s) :
    wpAny (model prog w) A (eval (.Subscript value (.Slice lower upper none p) pos) env) Q E s := by
  refine Subscript_ (wpAny_mono h (fun o s₁ h₁ => wpAny_Slice (wpAny_mono h₁ (fun vl s₂ h₂ => wpAny_mono h₂ (fun vu s₃ h₃ => ?_) fun _ _ e => e) fun _ _ e => e)) fun _ _ e => e)
  obtain ⟨l, items, lo, hi, rfl, hl, hsz, pl, pu, hQ⟩ := h₃
  rw [evalPart_none]
  refine wpAny_pure (tail_any (hl.push _).typeIs list_getitem_lookup (wpAny_getItem_list_slice (hl.push _) (Heap.IsSliceOf.new ..) pl pu .none (by simp) ?_ hsz) rfl)
  rw [Heap.size_push]
  exact hQ
theorem item_neg {value slice : Expr} {l : Addr} {items : Array Value} {k : Int} {u : Tok} {x : Value} {Q : Value → Shared → Prop} (hl : s.heap.IsList l items)
    (h0 : k < 0) (h1 : -(items.size : Int) ≤ k) (hfit : -(2 ^ 63) ≤ k) (hx : items[(k + items.size).toNat]? = some x) (h : Q x s)
    (hs : subscripted slice false (.ref l) (.int k u) = operate [.ref l, .int k u] (getItem (.ref l) (.int k u)) := by with_unfolding_all rfl) (hg : ∀ r, letTemporaryGo value (.ref l) r = pure () := by intro _; with_unfolding_all rfl) :
    wpAny (model prog w) A (subscriptTail value slice (.ref l) (.int k u)) Q E s :=
  subscriptTail_builtin hl.typeIs slot_list_getitem.lookup (wpAny_getItem_list_neg hl h0 h1 hfit hx h) hs hg
/-- the last item is set to what it was -/
theorem setItem_last {l : Addr} {t : Tok} {v : Value} {Q : Unit → Shared → Prop} (ho : s.heap.get? l = some (listOf its n)) (hx : its[its.size - 1]? = some v)
    (hQ : ∀ h', h'.get? l = some (listOf its n) → Heap.SameBut l s.heap h' → Q () { s with heap := h' }) :
    wpAny (model prog w) A (setItem (.ref l) (.int (-1) t) v) Q E s := by
  have hl : s.heap.IsList l its := ⟨_, ho, rfl, n, rfl⟩
  have hpos : its.size ≠ 0 := by
    intro e
    rw [Array.getElem?_eq_none (by omega)] at hx
    cases hx
  unfold setItem
  try with_reducible refine wpAny_holding ?_
  refine wpAny_bind (wpAny_sequenceKey hl.typeIs (by decide) ?_)
  refine wpAny_bind (wpAny_callSpecial?_slot (name := Str.ofString "__setitem__") hl.typeIs slot_list_setitem
    (wpAny_call_entry slot_list_setitem hl.typeIs entry_list_setitem ?_ (args_list_setitem _ _ _)))
  show wpAny _ _ (Builtin.List.listSubscript? (.int (-1) t) >>= _) _ _ s
  refine wpAny_bind (wpAny_listSubscript_int (fitsIndex_neg (by omega) (by omega)) ?_)
  have hidx := seqIndex_neg (k := -1) (n := its.size) (by omega) (by omega)
  have hi : ((-1 : Int) + its.size).toNat = its.size - 1 := by omega
  rw [hi] at hidx
  show wpAny _ _ ((Builtin.List.listItems (.ref l) >>= fun xs => pure ((seqIndex? (-1) xs.size).bind fun i => xs[i]?.map (i, ·))) >>= _) _ _ s
  refine wpAny_bind (wpAny_bind ?_)
  show wpAny _ _ (seqItems? (.ref l) >>= _) _ _ s
  refine wpAny_bind (wpAny_seqItems ho rfl (wpAny_pure (wpAny_pure ?_)))
  rw [hidx]
  simp only [Option.bind_some, hx, Option.map_some]
  show wpAny _ _ (setSeqItemAt l (its.size - 1) v >>= _) _ _ s
  have hsame : its.setIfInBounds (its.size - 1) v = its := by
    have := Array.getElem?_eq_some_iff.mp hx
    obtain ⟨h1, h2⟩ := this
    rw [Array.setIfInBounds_def, dif_pos h1, ← h2]
    exact Array.set_getElem_self _
  have hp : Obj.mapSeq (·.setIfInBounds (its.size - 1) v) (listOf its n) = listOf its n := by
    show (⟨.type "list", none, .seq (its.setIfInBounds (its.size - 1) v) (if (its.setIfInBounds (its.size - 1) v).size == its.size then n else n + 1), #[]⟩ : Obj) = _
    rw [hsame]; simp
  have hfin : (s.heap.update l (Obj.mapSeq (·.setIfInBounds (its.size - 1) v))).get? l = some (listOf its n) := by
    rw [Heap.get?_update_self _ ho (by rw [hp]; rfl), hp]
  refine wpAny_bind (wpAny_setSeqItemAt ho rfl ?_)
  first
    | exact wpAny_bind (wpAny_pure (wpAny_pure ⟨.none, rfl, wpAny_pure (hQ _ hfin (Heap.SameBut.update ..))⟩))
    | exact wpAny_pure ⟨.none, rfl, wpAny_pure (hQ _ hfin (Heap.SameBut.update ..))⟩
end
end Mine
end
section
open PySem PySem.W PyProof.Rows
set_option maxRecDepth 100000
namespace Mine
open PySem.Sem (wp)
open PySem.Calls
section
variable {prog : Program} {w : World} {A : Around} {E : Value → Shared → Prop} {s : Shared} {env : Env} {h₀ : Heap} {x : Str} {body : List Stmt} {Q : Flow → Shared → Prop}
/-- how a turn ends: the ledger may have grown -/
def GEnd (h₀ : Heap) (L : Addr) (J : (Str → Option Value) → List (Addr × Obj) → Prop) (lo io : Addr × Obj) (s₁ s₂ : Shared) : Prop :=
  ∃ h' tk m' nx, s₂ = { s₁ with heap := h', toks := tk } ∧ Fr h₀ L h' m' ∧ News h₀ L h' (io :: nx) ∧ (∀ p ∈ nx, p.1 ≠ io.1) ∧ lo ∈ nx ∧ J m' nx
def GPost (h₀ : Heap) (L : Addr) (J : (Str → Option Value) → List (Addr × Obj) → Prop) (lo io : Addr × Obj) (s₁ : Shared) (Q : Flow → Shared → Prop) (f : Flow) (s₂ : Shared) : Prop :=
  match f with
  | .ret v => Q (.ret v) s₂
  | .brk => Q .next s₂
  | _ => GEnd h₀ L J lo io s₁ s₂
theorem iter_G {l : Addr} {vs : List Value} {nn : Nat} {m₀ : Str → Option Value} {news : List (Addr × Obj)} (J : Nat → (Str → Option Value) → List (Addr × Obj) → Prop)
    (hh : A.handled = none) (hl : (l, listOf vs.toArray nn) ∈ news) (F : Fr h₀ env.locals s.heap m₀) (N : News h₀ env.locals s.heap news) (hj : J 0 m₀ news)
    (turn : ∀ i v m₁ news₁ h tk io, vs[i]? = some v → (l, listOf vs.toArray nn) ∈ news₁ → (∀ p ∈ news₁, p.1 ≠ io.1) → J i m₁ news₁ → Fr h₀ env.locals h (fun y => if y = x then some v else m₁ y) → News h₀ env.locals h (io :: news₁) →
      wpAny (model prog w) A (execs body env) (GPost h₀ env.locals (J (i + 1)) (l, listOf vs.toArray nn) io { s with heap := h, toks := tk } Q) E { s with heap := h, toks := tk })
    (done : ∀ m₁ news₁ h tk, (l, listOf vs.toArray nn) ∈ news₁ → J vs.length m₁ news₁ → Fr h₀ env.locals h m₁ → News h₀ env.locals h news₁ → Q .next { s with heap := h, toks := tk }) :
    wpAny (model prog w) A (pyIter (.ref l)) (fun it s₂ => LoopAtV prog w A h₀ env x body Q E it s₂) E s := by
  have hol : s.heap.get? l = some (listOf vs.toArray nn) := (N _ hl).1
  have hls : s.heap.IsList l vs.toArray := ⟨_, hol, rfl, nn, rfl⟩
  have hne : l ≠ s.heap.objs.size := Nat.ne_of_lt (Heap.lt_size hol)
  refine wpAny_pyIter_list hls ?_
  have W := Walks.list (prog := prog) (w := w) hh s.heap.objs.size l hne vs.toArray
  rw [List.size_toArray] at W
  have hnI : h₀.get? s.heap.objs.size = none := next_is_new F
  refine ⟨_, _, _, vs.length, _, _, m₀, news, (fun i m nx => (l, listOf vs.toArray nn) ∈ nx ∧ J i m nx), rfl, W, ?_, ?_, ?_, ⟨⟨_, Heap.get?_push_size _ rfl, rfl, rfl⟩, hls.at fun o e => Heap.get?_push_of_some _ e⟩, F.push _, (fun p hp => ⟨Heap.get?_push_of_some _ (N p hp).1, (N p hp).2⟩), ⟨hl, hj⟩, ?_, ?_⟩
  · intro hm
    rcases List.mem_cons.mp hm with e | hm
    · exact absurd F.ns.lt (e ▸ Nat.lt_irrefl _)
    · exact (N _ hl).2.1 ((List.mem_singleton.mp hm).symm)
  · intro b hb
    rw [List.mem_singleton.mp hb]
    exact hnI
  · intro p hp hI
    exact absurd (Heap.lt_size (N p hp).1) ((List.mem_singleton.mp hI) ▸ Nat.lt_irrefl _)
  · rintro i v m₁ news₁ s₁ own ⟨hh', tk', rfl⟩ hin hP ⟨hl₁, hJ⟩ hoff hown hget hfp ⟨⟨oI, hI, _⟩, _⟩ F₁ N₁
    have hv : vs[i]? = some v := by simpa using hP
    have hmI : (s.heap.objs.size, oI) ∈ own := hfp _ (.head _) hnI _ hI
    have N₂ : News h₀ env.locals hh' ((s.heap.objs.size, oI) :: news₁) := fun p hp => by
      rcases List.mem_cons.mp hp with rfl | hp
      · exact N₁ _ (List.mem_append.mpr (.inl hmI))
      · exact N₁ _ (List.mem_append.mpr (.inr hp))
    have hlo : hh'.get? l = some (listOf vs.toArray nn) := (N₁ _ (List.mem_append.mpr (.inr hl₁))).1
    refine wpAny_mono (turn i v m₁ news₁ hh' tk' (s.heap.objs.size, oI) hv hl₁ (fun p hp e => hoff p hp (List.mem_singleton.mpr e)) hJ F₁ N₂) (fun f s₂ p => ?_) fun _ _ e => e
    have fin : GEnd h₀ env.locals (J (i + 1)) (l, listOf vs.toArray nn) (s.heap.objs.size, oI) { s with heap := hh', toks := tk' } s₂ →
        LoopStepU h₀ env.locals [s.heap.objs.size] own (fun m nx => (l, listOf vs.toArray nn) ∈ nx ∧ J (i + 1) m nx) { s with heap := hh', toks := tk' } .next s₂ := by
      rintro ⟨h', tk, m', nx, e, F', N', ho, hm, hj'⟩
      refine ⟨rfl, h', tk, m', nx, e, F', fun p hp => ?_, fun p hp e => ho p hp (List.mem_singleton.mp e), hm, hj'⟩
      rcases List.mem_append.mp hp with h | h
      · have h2 : hh'.get? p.1 = some p.2 := hget p h
        rcases List.mem_cons.mp (hown p h) with h1 | h1
        · have h3 : p = (s.heap.objs.size, oI) := Prod.ext h1 (by rw [h1, hI] at h2; exact (Option.some.inj h2).symm)
          rw [h3]
          exact N' _ (.head _)
        · have h1 := List.mem_singleton.mp h1
          have h3 : p = (l, listOf vs.toArray nn) := Prod.ext h1 (by rw [h1, hlo] at h2; exact (Option.some.inj h2).symm)
          rw [h3]
          exact N' _ (.tail _ hm)
      · exact N' p (.tail _ h)
    cases f with
    | ret v => exact .ret p
    | brk => exact .brk p
    | next => exact .next (fin p)
    | cont => exact .cont (fin p)
  · rintro h' tk m' news' F' N' _ ⟨hl', hJ⟩
    exact done m' news' h' tk hl' hJ F' N'
end
end Mine
end
section
open PySem PySem.W PyProof.Rows
set_option maxRecDepth 100000
namespace Mine
open PySem.Sem (wp)
open PySem.Calls
section
variable {M : Model} {A : Around} {E : Value → Shared → Prop} {s : Shared} {env : Env} {Q : Flow → Shared → Prop}
theorem wpC_cut {sts : List Stmt} (n : Nat) (P : Shared → Prop) (h1 : wpAny M A (execs (sts.take n) env) (fun f s' => f = .next ∧ P s') E s) (h2 : ∀ s', P s' → wpC M A (execs (sts.drop n) env) Q E s') : wpC M A (execs sts env) Q E s := by
  rw [← List.take_append_drop n sts]
  refine wpC_execs_split (wpAny_mono h1 (fun f s' h => ?_) fun _ _ x => x)
  obtain ⟨rfl, h⟩ := h
  exact h2 s' h
end
theorem ints_of {P : Int → Prop} : ∀ {l : List Value}, (∀ v ∈ l, ∃ k t, v = .int k t ∧ P k) → ∃ ns, IntsAre l ns ∧ ns.length = l.length ∧ ∀ n ∈ ns, P n
  | [], _ => ⟨[], .nil, rfl, fun _ h => (nomatch h)⟩
  | v :: l, h => by
    obtain ⟨k, t, rfl, hk⟩ := h v (.head _)
    obtain ⟨ns, hi, hl, hp⟩ := ints_of (l := l) fun v hv => h v (.tail _ hv)
    refine ⟨k :: ns, .cons k t hi, by simp [hl], fun n hn => ?_⟩
    rcases List.mem_cons.mp hn with rfl | hn
    · exact hk
    · exact hp n hn
theorem ints_range {acc : Array Value} (h : ItemsOf (fun i v => ∃ t, v = Value.int (1 + i * 1) t) acc 254) : ∃ rs, IntsAre acc.toList rs ∧ rs.length = 254 ∧ ∀ r ∈ rs, 0 ≤ r ∧ r < 256 := by
  obtain ⟨ns, hi, hl, hp⟩ := ints_of (P := fun k => 0 ≤ k ∧ k < 256) (l := acc.toList) fun v hv => by
    obtain ⟨j, hj⟩ := List.getElem?_of_mem hv
    rw [Array.getElem?_toList] at hj
    obtain ⟨t, ht⟩ := h.2 j v hj
    have hlt : j < acc.size := (Array.getElem?_eq_some_iff.mp hj).1
    rw [h.1] at hlt
    exact ⟨_, t, ht, by omega, by omega⟩
  exact ⟨ns, hi, by rw [hl, Array.length_toList, h.1], hp⟩
theorem list_range_L {prog : Program} {w : World} {A : Around} {E : Value → Shared → Prop} {s : Shared} {h₀ : Heap} {L r : Addr} {m : Str → Option Value} {news : List (Addr × Obj)} {t u v : Tok} {Q : Value → Shared → Prop} (F : Fr h₀ L s.heap m) (N : News h₀ L s.heap news) (hh : A.handled = none) (hr : IsRange s.heap r 1 255 1 t u v)
    (hQ : ∀ C h' tk rv rn rs, IntsAre rv rs → rs.length = 254 → (∀ r ∈ rs, 0 ≤ r ∧ r < 256) → Fr h₀ L h' m → News h₀ L h' ((C, listOf rv.toArray rn) :: news) → (∀ p ∈ news, p.1 ≠ C) → Q (.ref C) { s with heap := h', toks := tk }) :
    wpAny (model prog w) A (call (.type "list") [.ref r]) Q E s := by
  refine call_list_range hh hr (by decide) rfl (by decide) fun h7 tk7 acc c7 keep7 e7 hit => ?_
  obtain ⟨rs, hrs, hr254, hroct⟩ := ints_range hit
  refine hQ _ h7 tk7 acc.toList c7 rs hrs hr254 hroct (F.keeps keep7) ?_ fun p hp => Nat.ne_of_lt (Heap.lt_size (N p hp).1)
  rw [Array.toArray_toList]
  exact news_pushed F N keep7 e7 rfl
/-- after the numbers -/
def P4 (h₀ : Heap) (L : Addr) (s s' : Shared) : Prop :=
  ∃ (h : Heap) (tk : Nat) (u : Str → Option Value) (Nu Rp Bk : Addr) (vs rv : List Value) (ns : List Int) (nn rn : Nat) (tw : Tok),
    s' = { s with heap := h, toks := tk } ∧
    Fr h₀ L h (fun y => if y = Str.ofString "wide" then some (.int 0 tw) else if y = Str.ofString "blocks" then some (.ref Bk) else if y = Str.ofString "ramp" then some (.ref Rp) else if y = Str.ofString "numbers" then some (.ref Nu) else u y) ∧
    News h₀ L h [(Bk, listOf #[] 0), (Rp, listOf rv.toArray rn), (Nu, listOf vs.toArray nn)] ∧ Bk ≠ Rp ∧ Bk ≠ Nu ∧ Rp ≠ Nu ∧
    IntsAre vs ns ∧ ns ≠ [] ∧ ns.length ≤ 24 ∧ (∃ rs, IntsAre rv rs ∧ rs.length = 254 ∧ ∀ r ∈ rs, 0 ≤ r ∧ r < 256)
theorem allLt_mem {d : Addr} : ∀ {l : List (Addr × Obj)}, AllLt d l → ∀ p ∈ l, p.1 < d
  | [], _, _, h => (nomatch h)
  | _ :: _, h, p, hp => by
    rcases List.mem_cons.mp hp with rfl | hp
    · exact h.1
    · exact allLt_mem h.2 p hp
theorem units_ok (env : Env) : (callerA.deeper env).units < cLine := by
  have h : (callerA.deeper env).units = (callerA.deeper default).units := rfl
  rw [h]
  decide +kernel
theorem depth_ok (env : Env) : (callerA.deeper env).depth < recursionLimit := by
  have h : (callerA.deeper env).depth = (callerA.deeper default).depth := rfl
  rw [h]
  decide +kernel
/-- a block of the law -/
def BlkOk (p : Addr × Obj) : Prop := ∃ (bv : List Value) (bs : List Int) (n : Nat), p.2 = listOf bv.toArray n ∧ IntsAre bv bs ∧ (∀ k ∈ bs, 0 ≤ k ∧ k < 256) ∧ bs.length ≤ 254
def refsOf (blks : List (Addr × Obj)) : List Value := blks.reverse.map fun p => Value.ref p.1
theorem refs_cons (D : Addr) (o : Obj) (bl : List (Addr × Obj)) : refsOf ((D, o) :: bl) = refsOf bl ++ [.ref D] := by simp [refsOf]
theorem refs_size (D : Addr) (o : Obj) (bl : List (Addr × Obj)) : (refsOf ((D, o) :: bl)).toArray.size = bl.length + 1 := by simp [refsOf]
theorem refs_last (D : Addr) (o : Obj) (bl : List (Addr × Obj)) : (refsOf ((D, o) :: bl)).toArray[((-1 : Int) + ((refsOf ((D, o) :: bl)).toArray.size : Nat)).toNat]? = some (.ref D) := by
  rw [refs_size, show ((-1 : Int) + ((bl.length + 1 : Nat) : Int)).toNat = bl.length from by omega, refs_cons]
  simp [refsOf]
theorem refs_last' (D : Addr) (o : Obj) (bl : List (Addr × Obj)) : (refsOf ((D, o) :: bl)).toArray[(refsOf ((D, o) :: bl)).toArray.size - 1]? = some (.ref D) := by
  rw [refs_size, show bl.length + 1 - 1 = bl.length from by omega, refs_cons]
  simp [refsOf]
theorem last_item {prog : Program} {w : World} {A : Around} {E : Value → Shared → Prop} {s : Shared} {value slice : PySem.Expr} {Bk D : Addr} {o : Obj} {bl : List (Addr × Obj)} {bn : Nat} {u : Tok} {Q : Value → Shared → Prop} (ho : s.heap.get? Bk = some (listOf (refsOf ((D, o) :: bl)).toArray bn)) (h : Q (.ref D) s)
    (hs : subscripted slice false (.ref Bk) (.int (-1) u) = operate [.ref Bk, .int (-1) u] (getItem (.ref Bk) (.int (-1) u)) := by with_unfolding_all rfl) (hg : ∀ r, letTemporaryGo value (.ref Bk) r = pure () := by intro _; with_unfolding_all rfl) :
    wpAny (model prog w) A (subscriptTail value slice (.ref Bk) (.int (-1) u)) Q E s :=
  item_neg ⟨_, ho, rfl, _, rfl⟩ (by decide) (by rw [refs_size]; omega) (by decide) (refs_last _ _ _) h hs hg
/-- after the blocks -/
def P5 (h₀ : Heap) (L : Addr) (Nu : Addr) (vs : List Value) (nn : Nat) (s s' : Shared) : Prop :=
  ∃ (h : Heap) (tk : Nat) (u : Str → Option Value) (Bk : Addr) (bn : Nat) (blks : List (Addr × Obj)),
    s' = { s with heap := h, toks := tk } ∧
    Fr h₀ L h (fun y => if y = Str.ofString "blocks" then some (.ref Bk) else if y = Str.ofString "numbers" then some (.ref Nu) else u y) ∧
    News h₀ L h ((Bk, listOf (refsOf blks).toArray bn) :: (blks ++ [(Nu, listOf vs.toArray nn)])) ∧ (∀ p ∈ blks, BlkOk p) ∧ blks.length ≤ 24
section
variable {M : Model} {A : Around} {E : Value → Shared → Prop} {s : Shared} {env : Env} {Q : Flow → Shared → Prop}
theorem wpAny_cut {sts : List Stmt} (n : Nat) (P : Shared → Prop) (h1 : wpAny M A (execs (sts.take n) env) (fun f s' => f = .next ∧ P s') E s) (h2 : ∀ s', P s' → wpAny M A (execs (sts.drop n) env) Q E s') : wpAny M A (execs sts env) Q E s := by
  rw [← List.take_append_drop n sts, execs_append]
  refine wpAny_bind (wpAny_mono h1 (fun f s' h => ?_) fun _ _ x => x)
  obtain ⟨rfl, h⟩ := h
  exact h2 s' h
end
theorem map4 {m : Str → Option Value} {x₁ x₂ x₃ x₄ : Str} {v₁ v₂ v₃ v₄ : Value} (h₁ : m x₁ = some v₁) (h₂ : m x₂ = some v₂) (h₃ : m x₃ = some v₃) (h₄ : m x₄ = some v₄) :
    m = fun y => if y = x₁ then some v₁ else if y = x₂ then some v₂ else if y = x₃ then some v₃ else if y = x₄ then some v₄ else m y := by
  funext y
  by_cases e1 : y = x₁
  · rw [if_pos e1, e1, h₁]
  · rw [if_neg e1]
    by_cases e2 : y = x₂
    · rw [if_pos e2, e2, h₂]
    · rw [if_neg e2]
      by_cases e3 : y = x₃
      · rw [if_pos e3, e3, h₃]
      · rw [if_neg e3]
        by_cases e4 : y = x₄
        · rw [if_pos e4, e4, h₄]
        · rw [if_neg e4]
/-- the ledger of the first loop -/
abbrev led (Bk : Addr) (bn : Nat) (blks : List (Addr × Obj)) (tl : List (Addr × Obj)) : List (Addr × Obj) := (Bk, listOf (refsOf blks).toArray bn) :: (blks ++ tl)
def PT (h₀ : Heap) (L : Addr) (Bk Rp Nu : Addr) (tl : List (Addr × Obj)) (io : Addr × Obj) (n : Int) (t : Tok) (wide : Int) (tw : Tok) (i : Nat) (s s' : Shared) : Prop :=
  ∃ (h : Heap) (tk : Nat) (u : Str → Option Value) (bn : Nat) (D : Addr) (bv : List Value) (bs : List Int) (dn : Nat) (blks : List (Addr × Obj)) (rest : Int) (tr : Tok),
    s' = { s with heap := h, toks := tk } ∧
    Fr h₀ L h (fun y => if y = Str.ofString "rest" then some (.int rest tr) else if y = Str.ofString "number" then some (.int n t) else if y = Str.ofString "wide" then some (.int wide tw) else if y = Str.ofString "blocks" then some (.ref Bk) else if y = Str.ofString "ramp" then some (.ref Rp) else if y = Str.ofString "numbers" then some (.ref Nu) else u y) ∧
    News h₀ L h (io :: led Bk bn ((D, listOf bv.toArray dn) :: blks) tl) ∧ IntsAre bv bs ∧ (∀ k ∈ bs, 0 ≤ k ∧ k < 256) ∧ bs.length ≤ 253 ∧ (∀ p ∈ blks, BlkOk p) ∧ blks.length ≤ i ∧
    ((led Bk bn ((D, listOf bv.toArray dn) :: blks) tl).map (·.1)).Nodup ∧ (∀ p ∈ led Bk bn ((D, listOf bv.toArray dn) :: blks) tl, p.1 ≠ io.1)
theorem PT.of_append {h₀ : Heap} {L Bk Rp Nu : Addr} {tl : List (Addr × Obj)} {io : Addr × Obj} {n : Int} {t : Tok} {wide : Int} {tw : Tok} {i : Nat} {s : Shared} {h : Heap} {tk : Nat} {u : Str → Option Value} {bn bo : Nat} {D : Addr} {blks : List (Addr × Obj)} {rest : Int} {tr : Tok}
    (F : Fr h₀ L h (fun y => if y = Str.ofString "rest" then some (.int rest tr) else if y = Str.ofString "number" then some (.int n t) else if y = Str.ofString "wide" then some (.int wide tw) else if y = Str.ofString "blocks" then some (.ref Bk) else if y = Str.ofString "ramp" then some (.ref Rp) else if y = Str.ofString "numbers" then some (.ref Nu) else u y))
    (N : News h₀ L h ((D, listOf #[] 0) :: io :: (Bk, listOf ((refsOf blks).toArray.push (.ref D)) bn) :: (blks ++ tl))) (hD : ∀ p ∈ io :: led Bk bo blks tl, p.1 ≠ D)
    (hb : ∀ p ∈ blks, BlkOk p) (hl : blks.length ≤ i) (hnd : ((led Bk bo blks tl).map (·.1)).Nodup) (hio : ∀ p ∈ led Bk bo blks tl, p.1 ≠ io.1) : PT h₀ L Bk Rp Nu tl io n t wide tw i s { s with heap := h, toks := tk } := by
  have hr : (refsOf blks).toArray.push (.ref D) = (refsOf ((D, listOf #[] 0) :: blks)).toArray := by simp [refsOf]
  rw [hr] at N
  refine ⟨h, tk, u, bn, D, [], [], 0, blks, rest, tr, rfl, F, fun p hp => N p ?_, .nil, (fun _ h => (nomatch h)), Nat.zero_le _, hb, hl, ?_, fun p hp => ?_⟩
  · simp only [led, List.cons_append, List.mem_cons, List.mem_append] at hp ⊢
    rcases hp with h | h | h | h | h
    · exact .inr (.inl h)
    · exact .inr (.inr (.inl h))
    · exact .inl h
    · exact .inr (.inr (.inr (.inl h)))
    · exact .inr (.inr (.inr (.inr h)))
  · simp only [led, List.map_cons, List.nodup_cons, List.cons_append, List.mem_cons, not_or] at hnd ⊢
    refine ⟨⟨fun e => hD _ (.tail _ (.head _)) e, hnd.1⟩, fun hm => ?_, hnd.2⟩
    obtain ⟨p, hp, e⟩ := List.mem_map.mp hm
    exact hD p (.tail _ (.tail _ hp)) e
  · simp only [led, List.cons_append, List.mem_cons] at hp
    rcases hp with rfl | rfl | h
    · exact hio (Bk, listOf (refsOf blks).toArray bo) (.head _)
    · exact fun e => hD io (.head _) e.symm
    · exact hio p (.tail _ h)
def J1 (Bk Rp Nu : Addr) (tl : List (Addr × Obj)) (i : Nat) (m' : Str → Option Value) (nx : List (Addr × Obj)) : Prop :=
  ∃ (u : Str → Option Value) (wide : Int) (tw : Tok) (bn : Nat) (blks : List (Addr × Obj)), nx = led Bk bn blks tl ∧
    m' = (fun y => if y = Str.ofString "wide" then some (.int wide tw) else if y = Str.ofString "blocks" then some (.ref Bk) else if y = Str.ofString "ramp" then some (.ref Rp) else if y = Str.ofString "numbers" then some (.ref Nu) else u y) ∧
    (∀ p ∈ blks, BlkOk p) ∧ blks.length ≤ i ∧ (nx.map (·.1)).Nodup
theorem turn_end {h₀ h : Heap} {L Bk Rp Nu : Addr} {tl : List (Addr × Obj)} {lo io : Addr × Obj} {i : Nat} {m : Str → Option Value} {wide : Int} {tw : Tok} {bn : Nat} {blks : List (Addr × Obj)} {s₁ : Shared} {tk : Nat}
    (F : Fr h₀ L h m) (N : News h₀ L h (io :: led Bk bn blks tl)) (h1 : m (Str.ofString "wide") = some (.int wide tw)) (h2 : m (Str.ofString "blocks") = some (.ref Bk)) (h3 : m (Str.ofString "ramp") = some (.ref Rp)) (h4 : m (Str.ofString "numbers") = some (.ref Nu))
    (hb : ∀ p ∈ blks, BlkOk p) (hl : blks.length ≤ i) (hnd : ((led Bk bn blks tl).map (·.1)).Nodup) (hio : ∀ p ∈ led Bk bn blks tl, p.1 ≠ io.1) (hlo : lo ∈ tl) :
    GEnd h₀ L (J1 Bk Rp Nu tl i) lo io s₁ { s₁ with heap := h, toks := tk } :=
  ⟨h, tk, m, _, rfl, F, N, hio, .tail _ (List.mem_append_right _ hlo), m, wide, tw, bn, blks, rfl, map4 h1 h2 h3 h4, hb, hl, hnd⟩
theorem led_off {Bk D : Addr} {bn : Nat} {o : Obj} {blks tl : List (Addr × Obj)} (h : ((led Bk bn ((D, o) :: blks) tl).map (·.1)).Nodup) : Bk ≠ D ∧ ∀ p ∈ blks ++ tl, p.1 ≠ D := by
  simp only [led, List.map_cons, List.nodup_cons, List.cons_append, List.mem_cons, not_or] at h
  exact ⟨h.1.1, fun p hp e => h.2.1 (List.mem_map.mpr ⟨p, hp, e⟩)⟩
theorem led_nodup {Bk D : Addr} {bn : Nat} {o o' : Obj} {blks tl : List (Addr × Obj)} (h : ((led Bk bn ((D, o) :: blks) tl).map (·.1)).Nodup) : ((led Bk bn ((D, o') :: blks) tl).map (·.1)).Nodup := h
theorem led_io {Bk D : Addr} {bn : Nat} {o o' : Obj} {blks tl : List (Addr × Obj)} {a : Addr} (h : ∀ p ∈ led Bk bn ((D, o) :: blks) tl, p.1 ≠ a) : ∀ p ∈ led Bk bn ((D, o') :: blks) tl, p.1 ≠ a := fun p hp => by
  simp only [led, List.cons_append, List.mem_cons] at hp
  rcases hp with rfl | rfl | hp
  · exact h (Bk, listOf (refsOf ((D, o) :: blks)).toArray bn) (.head _)
  · exact h (D, o) (.tail _ (.head _))
  · exact h p (.tail _ (.tail _ hp))
theorem blk_ok {D : Addr} {bv : List Value} {bs : List Int} {dn : Nat} {blks : List (Addr × Obj)} (hi : IntsAre bv bs) (ho : ∀ k ∈ bs, 0 ≤ k ∧ k < 256) (hz : bs.length ≤ 254) (hb : ∀ p ∈ blks, BlkOk p) : ∀ p ∈ (D, listOf bv.toArray dn) :: blks, BlkOk p := fun p hp => by
  rcases List.mem_cons.mp hp with rfl | hp
  · exact ⟨bv, bs, dn, rfl, hi, ho, hz⟩
  · exact hb p hp
/-- the last block has got another object -/
theorem turn_end2 {h₀ h : Heap} {L Bk D Rp Nu : Addr} {tl : List (Addr × Obj)} {lo io : Addr × Obj} {i : Nat} {m : Str → Option Value} {wide : Int} {tw : Tok} {bn : Nat} {blks : List (Addr × Obj)} {o : Obj} {bv : List Value} {bs : List Int} {dn : Nat} {s₁ : Shared} {tk : Nat}
    (F : Fr h₀ L h m) (N : News h₀ L h (io :: (Bk, listOf (refsOf ((D, o) :: blks)).toArray bn) :: (D, listOf bv.toArray dn) :: (blks ++ tl))) (h1 : m (Str.ofString "wide") = some (.int wide tw)) (h2 : m (Str.ofString "blocks") = some (.ref Bk)) (h3 : m (Str.ofString "ramp") = some (.ref Rp)) (h4 : m (Str.ofString "numbers") = some (.ref Nu))
    (hi : IntsAre bv bs) (ho : ∀ k ∈ bs, 0 ≤ k ∧ k < 256) (hz : bs.length ≤ 254) (hb : ∀ p ∈ blks, BlkOk p) (hl : blks.length ≤ i) (hnd : ((led Bk bn ((D, o) :: blks) tl).map (·.1)).Nodup) (hio : ∀ p ∈ led Bk bn ((D, o) :: blks) tl, p.1 ≠ io.1) (hlo : lo ∈ tl) :
    GEnd h₀ L (J1 Bk Rp Nu tl (i + 1)) lo io s₁ { s₁ with heap := h, toks := tk } := by
  rw [refs_cons, ← refs_cons D (listOf bv.toArray dn)] at N
  exact turn_end F N h1 h2 h3 h4 (blk_ok hi ho hz hb) (Nat.succ_le_succ hl) (led_nodup hnd) (led_io hio) hlo
theorem pick3 (r q : Int) (t₀ t₁ t₂ : Tok) : ∃ (K : Int) (t : Tok), [Value.int 253 t₀, .int 254 t₁, .int (Int.fmod q 255) t₂][(Int.fmod r 3).toNat]? = some (.int K t) ∧ 0 ≤ K ∧ K ≤ 254 := by
  have h1 := Int.fmod_nonneg_of_pos r (show (0 : Int) < 3 by decide)
  have h2 := Int.fmod_lt_of_pos r (show (0 : Int) < 3 by decide)
  have h3 := Int.fmod_nonneg_of_pos q (show (0 : Int) < 255 by decide)
  have h4 := Int.fmod_lt_of_pos q (show (0 : Int) < 255 by decide)
  generalize Int.fmod r 3 = k at *
  rcases (by omega : k = 0 ∨ k = 1 ∨ k = 2) with rfl | rfl | rfl
  · exact ⟨253, t₀, rfl, by omega, by omega⟩
  · exact ⟨254, t₁, rfl, by omega, by omega⟩
  · exact ⟨_, t₂, rfl, by omega, by omega⟩
theorem item3 {prog : Program} {w : World} {A : Around} {E : Value → Shared → Prop} {s : Shared} {value slice : PySem.Expr} {l : Addr} {r q : Int} {t₀ t₁ t₂ u : Tok} {Q : Value → Shared → Prop} (hl : s.heap.IsList l [Value.int 253 t₀, .int 254 t₁, .int (Int.fmod q 255) t₂].toArray) (h : ∀ K t, 0 ≤ K → K ≤ 254 → Q (.int K t) s)
    (hs : subscripted slice false (.ref l) (.int (Int.fmod r 3) u) = operate [.ref l, .int (Int.fmod r 3) u] (getItem (.ref l) (.int (Int.fmod r 3) u)) := by with_unfolding_all rfl) : wpAny (model prog w) A (subscriptTail value slice (.ref l) (.int (Int.fmod r 3) u)) Q E s := by
  obtain ⟨K, t, e, h0, h1⟩ := pick3 r q t₀ t₁ t₂
  exact item_litK hl (Int.fmod_nonneg_of_pos _ (by decide)) (Int.lt_trans (Int.fmod_lt_of_pos r (show (0 : Int) < 3 by decide)) (by decide)) e (h K t h0 h1) hs
theorem news_sub {h₀ h : Heap} {L : Addr} {xs ys : List (Addr × Obj)} (N : News h₀ L h xs) (hs : ∀ p ∈ ys, p ∈ xs) : News h₀ L h ys := fun p hp => N p (hs p hp)
theorem sub_13 {α : Type} {a b c : α} {l : List α} : ∀ p ∈ c :: a :: b :: l, p ∈ a :: b :: c :: l := fun p hp => by
  simp only [List.mem_cons] at hp ⊢
  rcases hp with h | h | h | h <;> simp [h]
theorem sub_31 {α : Type} {a b c : α} {l : List α} : ∀ p ∈ b :: c :: a :: l, p ∈ a :: b :: c :: l := fun p hp => by
  simp only [List.mem_cons] at hp ⊢
  rcases hp with h | h | h | h <;> simp [h]
theorem sub_12 {α : Type} {a b : α} {l : List α} : ∀ p ∈ b :: a :: l, p ∈ a :: b :: l := fun p hp => by
  simp only [List.mem_cons] at hp ⊢
  rcases hp with h | h | h <;> simp [h]
theorem oct_mid {rs : List Int} {a b : Nat} (h : ∀ k ∈ rs, 0 ≤ k ∧ k < 256) : ∀ k ∈ (rs.drop a).take b, 0 ≤ k ∧ k < 256 := fun k hk => h k (List.mem_of_mem_drop (List.mem_of_mem_take hk))
theorem offB {Bk D : Addr} {bn : Nat} {o o' : Obj} {blks tl : List (Addr × Obj)} {io : Addr × Obj} (h : ((led Bk bn ((D, o) :: blks) tl).map (·.1)).Nodup) (hio : ∀ p ∈ led Bk bn ((D, o) :: blks) tl, p.1 ≠ io.1) :
    ∀ p ∈ (D, o') :: io :: (blks ++ tl), p.1 ≠ Bk := fun p hp e => by
  have h1 : Bk ∉ (((D, o) :: blks ++ tl).map (·.1)) := (List.nodup_cons.mp h).1
  rcases List.mem_cons.mp hp with rfl | hp
  · exact h1 (List.mem_map.mpr ⟨(D, o), .head _, e⟩)
  · rcases List.mem_cons.mp hp with rfl | hp
    · exact hio _ (.head _) e.symm
    · exact h1 (List.mem_map.mpr ⟨p, .tail _ hp, e⟩)
theorem map2 {m : Str → Option Value} {x₁ x₂ : Str} {v₁ v₂ : Value} (h₁ : m x₁ = some v₁) (h₂ : m x₂ = some v₂) :
    m = fun y => if y = x₁ then some v₁ else if y = x₂ then some v₂ else m y := by
  funext y
  by_cases e1 : y = x₁
  · rw [if_pos e1, e1, h₁]
  · rw [if_neg e1]
    by_cases e2 : y = x₂
    · rw [if_pos e2, e2, h₂]
    · rw [if_neg e2]
theorem map1 {m : Str → Option Value} {x₁ : Str} {v₁ : Value} (h₁ : m x₁ = some v₁) : m = fun y => if y = x₁ then some v₁ else m y := by
  funext y
  by_cases e1 : y = x₁
  · rw [if_pos e1, e1, h₁]
  · rw [if_neg e1]
theorem fr2 {h₀ h : Heap} {L : Addr} {m : Str → Option Value} {x₁ x₂ : Str} {v₁ v₂ : Value} (F : Fr h₀ L h m) (h₁ : m x₁ = some v₁) (h₂ : m x₂ = some v₂) : Fr h₀ L h (fun y => if y = x₁ then some v₁ else if y = x₂ then some v₂ else m y) := by
  rw [← map2 h₁ h₂]
  exact F
theorem fr1 {h₀ h : Heap} {L : Addr} {m : Str → Option Value} {x₁ : Str} {v₁ : Value} (F : Fr h₀ L h m) (h₁ : m x₁ = some v₁) : Fr h₀ L h (fun y => if y = x₁ then some v₁ else m y) := by
  rw [← map1 h₁]
  exact F
/-- after the row -/
def P7 (h₀ : Heap) (L : Addr) (Nu : Addr) (vs : List Value) (nn : Nat) (s s' : Shared) : Prop :=
  ∃ (h : Heap) (tk : Nat) (u : Str → Option Value) (Rw : Addr) (rn : Nat) (rvs : List Value) (rns : List Int),
    s' = { s with heap := h, toks := tk } ∧
    Fr h₀ L h (fun y => if y = Str.ofString "row" then some (.ref Rw) else if y = Str.ofString "numbers" then some (.ref Nu) else u y) ∧
    News h₀ L h [(Rw, listOf rvs.toArray rn), (Nu, listOf vs.toArray nn)] ∧ IntsAre rvs rns ∧ (∀ k ∈ rns, 0 ≤ k ∧ k < 256) ∧ rns.length ≤ 255 * 24
theorem ints_fst {vs : List Value} {ns : List Int} (h : IntsAre vs ns) (hne : ns ≠ []) : ∃ n t, vs.toArray[(0 : Int).toNat]? = some (.int n t) := by
  cases h with
  | nil => exact absurd rfl hne
  | cons k t _ => exact ⟨k, t, rfl⟩
theorem ints_lst {vs : List Value} {ns : List Int} (h : IntsAre vs ns) (hne : ns ≠ []) : ∃ n t, vs.toArray[((-1 : Int) + (vs.toArray.size : Nat)).toNat]? = some (.int n t) := by
  have hl := h.length
  have hp := List.length_pos_iff.mpr hne
  have hi : ns.length - 1 < ns.length := by omega
  obtain ⟨t, e⟩ := h.get (ns.length - 1) ns[ns.length - 1] (by simp [hi])
  refine ⟨ns[ns.length - 1], t, ?_⟩
  rw [List.size_toArray, show ((-1 : Int) + (vs.length : Nat)).toNat = ns.length - 1 from by omega]
  simpa using e
/-- the three numbers -/
def P10 (h₀ : Heap) (L : Addr) (Nu : Addr) (vs : List Value) (nn : Nat) (s s' : Shared) : Prop :=
  ∃ (h : Heap) (tk : Nat) (u : Str → Option Value) (Rw : Addr) (rn : Nat) (rvs : List Value) (rns : List Int) (way place value : Int) (t₁ t₂ t₃ : Tok),
    s' = { s with heap := h, toks := tk } ∧
    Fr h₀ L h (fun y => if y = Str.ofString "value" then some (.int value t₃) else if y = Str.ofString "place" then some (.int place t₂) else if y = Str.ofString "way" then some (.int way t₁) else if y = Str.ofString "row" then some (.ref Rw) else if y = Str.ofString "numbers" then some (.ref Nu) else u y) ∧
    News h₀ L h [(Rw, listOf rvs.toArray rn), (Nu, listOf vs.toArray nn)] ∧ IntsAre rvs rns ∧ (∀ k ∈ rns, 0 ≤ k ∧ k < 256) ∧ rns.length ≤ 255 * 24 ∧ 0 ≤ place ∧ 0 ≤ value ∧ value < 256
theorem oct_take {rs : List Int} {b : Nat} (h : ∀ k ∈ rs, 0 ≤ k ∧ k < 256) : ∀ k ∈ rs.take b, 0 ≤ k ∧ k < 256 := fun k hk => h k (List.mem_of_mem_take hk)
theorem oct_drop {rs : List Int} {b : Nat} (h : ∀ k ∈ rs, 0 ≤ k ∧ k < 256) : ∀ k ∈ rs.drop b, 0 ≤ k ∧ k < 256 := fun k hk => h k (List.mem_of_mem_drop hk)
/-- the row is ready -/
def P11 (h₀ : Heap) (L : Addr) (s s' : Shared) : Prop :=
  ∃ (h : Heap) (tk : Nat) (u : Str → Option Value) (Rw : Addr) (rn : Nat) (rvs : List Value) (rns : List Int),
    s' = { s with heap := h, toks := tk } ∧ Fr h₀ L h (fun y => if y = Str.ofString "row" then some (.ref Rw) else u y) ∧
    News h₀ L h [(Rw, listOf rvs.toArray rn)] ∧ IntsAre rvs rns ∧ (∀ k ∈ rns, 0 ≤ k ∧ k < 256) ∧ rns.length ≤ 10000
/-- what is due is known -/
def P12 (h₀ : Heap) (L : Addr) (s s' : Shared) : Prop :=
  ∃ (h : Heap) (tk : Nat) (u : Str → Option Value) (Rw : Addr) (rn : Nat) (rvs : List Value) (rns : List Int) (due : Value),
    s' = { s with heap := h, toks := tk } ∧ Fr h₀ L h (fun y => if y = Str.ofString "due" then some due else if y = Str.ofString "row" then some (.ref Rw) else u y) ∧
    News h₀ L h [(Rw, listOf rvs.toArray rn)] ∧ IntsAre rvs rns ∧ (∀ k ∈ rns, 0 ≤ k ∧ k < 256) ∧ rns.length ≤ 10000 ∧ DueIs rns due
def J2 (Rw Nu : Addr) (tl : List (Addr × Obj)) (i : Nat) (m : Str → Option Value) (nx : List (Addr × Obj)) : Prop :=
  ∃ (u : Str → Option Value) (rvs : List Value) (rns : List Int) (rn : Nat), nx = (Rw, listOf rvs.toArray rn) :: tl ∧
    m = (fun y => if y = Str.ofString "row" then some (.ref Rw) else if y = Str.ofString "numbers" then some (.ref Nu) else u y) ∧
    IntsAre rvs rns ∧ (∀ k ∈ rns, 0 ≤ k ∧ k < 256) ∧ rns.length ≤ 255 * i
theorem refs_get {blks : List (Addr × Obj)} {i : Nat} {v : Value} (h : (refsOf blks)[i]? = some v) : ∃ p ∈ blks, v = .ref p.1 := by
  have := List.mem_of_getElem? h
  simp only [refsOf, List.mem_map, List.mem_reverse] at this
  obtain ⟨p, hp, e⟩ := this
  exact ⟨p, hp, e.symm⟩
theorem fmod_oct (r : Int) : 0 ≤ Int.fmod r 255 + 1 ∧ Int.fmod r 255 + 1 < 256 := by
  have h1 := Int.fmod_nonneg_of_pos r (show (0 : Int) < 255 by decide)
  have h2 := Int.fmod_lt_of_pos r (show (0 : Int) < 255 by decide)
  omega
theorem oct_snoc {bs : List Int} {k : Int} (h : ∀ k ∈ bs, 0 ≤ k ∧ k < 256) (hk : 0 ≤ k ∧ k < 256) : ∀ j ∈ bs ++ [k], 0 ≤ j ∧ j < 256 := fun j hj => by
  rcases List.mem_append.mp hj with hj | hj
  · exact h j hj
  · rw [List.mem_singleton.mp hj]; exact hk
theorem oct_app {bs cs : List Int} (h : ∀ k ∈ bs, 0 ≤ k ∧ k < 256) (hk : ∀ k ∈ cs, 0 ≤ k ∧ k < 256) : ∀ j ∈ bs ++ cs, 0 ≤ j ∧ j < 256 := fun j hj => by
  rcases List.mem_append.mp hj with hj | hj
  · exact h j hj
  · exact hk j hj
end Mine
end
section
open PySem PySem.W PyProof.Rows
set_option maxRecDepth 100000
namespace Mine
open PySem.Sem (wp)
open PySem.Calls
section
variable {prog : Program} {w : World} {A : Around} {s : Shared} {env : Env} {h₀ : Heap} {R : Result → Shared → Prop} {x : Str} {px : Pos} {body : List Stmt} {l I : Addr} {vs : List Value} {nn : Nat} {news : List (Addr × Obj)}
theorem wpC_never {α : Type} {M : Model} {A : Around} {t : Sem α} {Q : α → Shared → Prop} {E : Value → Shared → Prop} {s : Shared} (h : wpC M A t Q (fun _ _ => False) s) : wpC M A t Q E s := wpC_mono h (fun _ _ q => q) fun _ _ x => x.elim
theorem wpAny_never {α : Type} {M : Model} {A : Around} {t : Sem α} {Q : α → Shared → Prop} {E : Value → Shared → Prop} {s : Shared} (h : wpAny M A t Q (fun _ _ => False) s) : wpAny M A t Q E s := wpAny_mono h (fun _ _ q => q) fun _ _ x => x.elim
theorem codeC_for_N (J : Nat → (Str → Option Value) → Prop) (hh : A.handled = none) (hx : env.kindOf x = some .local)
    (hp : (env.scope.kind == .class || (env.scope.kind == .module && env.locals != env.globals)) = false) (hl : (l, listOf vs.toArray nn) ∈ news) (hI : ∀ p ∈ news, p.1 ≠ I)
    (turn : ∀ i v m o h tk, vs[i]? = some v → J i m → Fr h₀ env.locals h (fun y => if y = x then some v else m y) → News h₀ env.locals h ((I, o) :: news) →
      wpC (model prog w) A (execs body env) (fun f s' => f = .next ∧ ∃ h' tk' m', s' = { s with heap := h', toks := tk' } ∧ Fr h₀ env.locals h' m' ∧ News h₀ env.locals h' ((I, o) :: news) ∧ J (i + 1) m') (fun _ _ => False) { s with heap := h, toks := tk })
    (done : ∀ h tk m, J vs.length m → Fr h₀ env.locals h m → News h₀ env.locals h news → R (.ok .next) { s with heap := h, toks := tk }) :
    ∀ (k i : Nat) (h : Heap) (tk : Nat) (m : Str → Option Value) (o : Obj), i + k = vs.length → h.IsListIter I l i → Fr h₀ env.locals h m → News h₀ env.locals h ((I, o) :: news) → J i m →
      codeC (model prog w) A (.forLoop (.Name x px) (.ref I) body [] env) R { s with heap := h, toks := tk } := by
  intro k
  induction k with
  | zero =>
    intro i h tk m o hik hit F N hj
    have hls : h.IsList l vs.toArray := ⟨_, (N _ (.tail _ hl)).1, rfl, nn, rfl⟩
    refine codeC_of_tree ?_
    show wpC _ A ((forTurn (.Name x px) (.ref I) body [] env).onRaise (fun x => do noteFrame x env; theTreesLotGoes x)) _ _ _
    refine wpC_noted (wpC_never ?_)
    simp only [forTurn]
    refine wpC_standAt (wpC_lift (wpAny_onRaise (wpAny_never ?_)))
    refine wpAny_pyNext_list_end hh hit hls (by simp; omega) fun h₁ he₁ => ?_
    refine wpC_pure ⟨rfl, rfl, codeC_of (codeAny_block (wpAny_execs_nil ?_))⟩
    have hne : I ≠ env.locals := (N _ (.head _)).2.1
    have hi0 : h₀.get? I = none := (N _ (.head _)).2.2
    have e : i = vs.length := by omega
    subst e
    refine done h₁ tk m hj ⟨F.ns.extBut he₁ (Ne.symm hne), fun b o e => he₁ b o (fun q => by rw [q, hi0] at e; cases e) (F.keep b o e), F.above⟩ fun p hp => ⟨he₁ _ _ (hI p hp) (N p (.tail _ hp)).1, (N p (.tail _ hp)).2⟩
  | succ k ih =>
    intro i h tk m o hik hit F N hj
    have hls : h.IsList l vs.toArray := ⟨_, (N _ (.tail _ hl)).1, rfl, nn, rfl⟩
    have hlt : i < vs.length := by omega
    have hv : vs[i]? = some vs[i] := by simp [hlt]
    refine codeC_of_tree ?_
    show wpC _ A ((forTurn (.Name x px) (.ref I) body [] env).onRaise (fun x => do noteFrame x env; theTreesLotGoes x)) _ _ _
    refine wpC_noted (wpC_never ?_)
    simp only [forTurn]
    refine wpC_standAt (wpC_lift (wpAny_onRaise (wpAny_never ?_)))
    refine wpAny_pyNext_list_item hit hls (x := vs[i]) (by simpa using hv) fun h₁ hit₁ hs₁ => ?_
    obtain ⟨o₁, ho₁, hc₁⟩ := id hit₁
    obtain ⟨F₁, N₁⟩ := ledger_upd F N hs₁ ho₁ hI
    refine wpC_lift (wpAny_of_eq (a := ()) rfl ?_)
    refine wpC_lift (wpAny_assign_Name (wpAny_storeName_local hx F₁.ns (fun h₂ hn₂ hs₂ => ?_) hp))
    have F₂ := F₁.set hn₂ hs₂
    have N₂ : News h₀ env.locals h₂ ((I, o₁) :: news) := fun p hp => ⟨hs₂.extBut _ _ (N₁ p hp).2.1 (N₁ p hp).1, (N₁ p hp).2⟩
    refine wpC_bind (wpC_mono (turn i vs[i] m o₁ h₂ (tk + 1) hv hj F₂ N₂) (fun f s₃ h₃ => ?_) fun _ _ x => x)
    obtain ⟨rfl, h₃, tk₃, m₃, rfl, F₃, N₃, hj₃⟩ := h₃
    exact wpC_pure ⟨rfl, rfl, ih (i + 1) h₃ tk₃ m₃ o₁ (by omega) ⟨o₁, (N₃ _ (.head _)).1, hc₁⟩ F₃ N₃ hj₃⟩
end
/-- the frame in the last loop -/
def JH (Hd Rw : Addr) (due : Value) (m : Str → Option Value) : Prop :=
  ∃ u : Str → Option Value, m = fun y => if y = Str.ofString "held" then some (.ref Hd) else if y = Str.ofString "due" then some due else if y = Str.ofString "row" then some (.ref Rw) else u y
def PH (h₀ : Heap) (L Hd Rw : Addr) (due : Value) (news : List (Addr × Obj)) (s s' : Shared) : Prop :=
  ∃ (h : Heap) (tk : Nat) (m : Str → Option Value), s' = { s with heap := h, toks := tk } ∧ Fr h₀ L h m ∧ JH Hd Rw due m ∧ News h₀ L h news
theorem fr4 {h₀ h : Heap} {L : Addr} {m : Str → Option Value} {x₁ x₂ x₃ x₄ : Str} {v₁ v₂ v₃ v₄ : Value} (F : Fr h₀ L h m) (h₁ : m x₁ = some v₁) (h₂ : m x₂ = some v₂) (h₃ : m x₃ = some v₃) (h₄ : m x₄ = some v₄) :
    Fr h₀ L h (fun y => if y = x₁ then some v₁ else if y = x₂ then some v₂ else if y = x₃ then some v₃ else if y = x₄ then some v₄ else m y) := by
  rw [← map4 h₁ h₂ h₃ h₄]
  exact F
theorem due_some {ns : List Int} {t : List UInt8} {k : Tok} (h : rd 0 false [] (byteArr ns).toList = some t) : DueIs ns (.bytes t.toArray k) := by
  unfold DueIs
  rw [h]
  exact ⟨k, rfl⟩
theorem due_none {ns : List Int} (h : rd 0 false [] (byteArr ns).toList = none) : DueIs ns .none := by
  unfold DueIs
  rw [h]
/-- after the try -/
def PD (h₀ : Heap) (L Hd Rw : Addr) (due : Value) (rns : List Int) (news : List (Addr × Obj)) (s s' : Shared) : Prop :=
  ∃ (h : Heap) (tk : Nat) (u : Str → Option Value) (told : Value), s' = { s with heap := h, toks := tk } ∧
    Fr h₀ L h (fun y => if y = Str.ofString "told" then some told else if y = Str.ofString "held" then some (.ref Hd) else if y = Str.ofString "due" then some due else if y = Str.ofString "row" then some (.ref Rw) else u y) ∧ News h₀ L h news ∧ DueIs rns told
theorem held_eq {acc : Array Value} {rvs : List Value} {rns : List Int} (it : ItemsOf (fun i v => ∃ c u, (byteArr rns)[i]? = some c ∧ v = .int (c.toNat : Int) u) acc (byteArr rns).size) (hri : IntsAre rvs rns) (hro : ∀ k ∈ rns, 0 ≤ k ∧ k < 256) :
    acc.size = rvs.toArray.size ∧ ∀ j (h1 : j < acc.size) (h2 : j < rvs.toArray.size), MeetsSeq.EqGives acc[j] rvs.toArray[j] true := by
  have hl := hri.length
  have hz := byteArr_size rns
  refine ⟨by rw [it.1, hz, List.size_toArray, hl], fun j h1 h2 => ?_⟩
  obtain ⟨c, u, hc, e⟩ := it.2 j acc[j] (by simp [h1])
  rw [List.size_toArray, hl] at h2
  obtain ⟨t, ht⟩ := hri.get j rns[j] (by simp [h2])
  have ht' : rvs.toArray[j] = .int rns[j] t := by
    have := List.getElem?_eq_some_iff.mp ht
    obtain ⟨_, e'⟩ := this
    simpa using e'
  rw [e, ht']
  have hr := hro rns[j] (List.getElem_mem h2)
  have hcv : (c.toNat : Int) = rns[j] := by
    simp only [byteArr, List.getElem?_toArray, List.getElem?_map] at hc
    rw [List.getElem?_eq_getElem h2] at hc
    simp only [Option.map_some, Option.some.injEq] at hc
    rw [← hc]
    simp
    omega
  have := MeetsSeq.EqGives.int (c.toNat : Int) rns[j] u t
  rw [hcv] at this ⊢
  simpa using this
theorem dec_at (w : World) {h : Heap} (X : (hd.heap_39 w.params).In h) : ∃ o fd, h.get? 34 = some o ∧ o.data = .func fd := by
  suffices H : ∀ _ : (model Challenge.rw_nc0004_01.row.prog w) = (model Challenge.rw_nc0004_01.row.prog w), ∃ o fd, h.get? 34 = some o ∧ o.data = .func fd from H rfl
  revert X
  k_fill
  intro X _
  have q := X 34 _ (by k_is)
  exact ⟨_, _, q, rfl⟩
end Mine
end
section
open PySem PySem.W PyProof.Rows
set_option maxRecDepth 100000
namespace Mine
open PySem.Sem (wp)
open PySem.Calls
set_option maxHeartbeats 8000000 in
theorem main : PySem.Challenge.rw_nc0004_01.Holds := by
  refine hd ?_
  w_on
  k_fill
  intro w s₀ s₁ mg mb G Y fa o pm cd doc dV kV ho hdt hcd hD hmg hgens args vals as hpre hlay hrd hwl hlo
  have KX := kIn_of Y
  refine Ground.open G ?_
  intro T B D TE TW
  have K0 := below_caller (Top.heap T)
  wrow_args hpre hlay hrd hwl hlo
  rename Heap.IsList _ _ _ => hL
  rename IntsAre _ _ => hI
  rename ¬ (_ : Int) < _ => hlen
  refine wpC_mono (Q := fun v s' => v = .bool true ∧ (∀ b o, s₁.heap.get? b = some o → s'.heap.get? b = some o) ∧ s'.os = s₁.os ∧ s'.gens = #[]) (E := fun _ _ => False) ?_ (fun v s' hq => ?_) (fun _ _ x => x.elim)
  case refine_2 =>
    obtain ⟨rfl, h1, h2, h3⟩ := hq
    exact GoodW.toG ⟨.inl ⟨_, _, [], rfl, fun _ => rfl, ReadsW.bool true, (by first | wrow_post | kernel_rfl | with_unfolding_all rfl), fun _ => ⟨List.nodup_nil, fun _ hm => (nomatch hm)⟩⟩, h1, h2, h3⟩
  have hdV := hD.none rfl
  subst hdV
  clear B D TE TW G Y hmg
  refine wpC_call ?_
  refine codeC_call_function ?kr ho hdt rfl rfl rfl hcd ?_
  case kr => decide +kernel
  refine wpAny_of_eq (a := [(Str.ofString "script", Value.ref _)]) rfl ?_
  refine wpAny_newFunctionEnv (by dsimp only [docDef]; decide) (locs rfl) (fun h₁ hns hsb => ⟨(T.nolimit).fresh _ hsb, codeC_func (wpC_mono (E := fun _ _ => False) ?_ (fun _ _ x => x) (fun _ _ x => x.elim))⟩) rfl
  have F : Fr s₁.heap s₁.heap.objs.size h₁ _ := ⟨hns, fun b o e => hsb.extBut b o (Nat.ne_of_lt (Heap.lt_size e)) (Heap.get?_push_of_some _ e), Nat.le_refl _⟩
  have N : News s₁.heap s₁.heap.objs.size h₁ [] := News.nil
  clear hns hsb
  dsimp only [DefRec.body, DefRec.scope, DefRec.name, DefRec.params, docDef]
  rename_i nsS i2 i3 i4 i5 i6 i7 i8 Sc vsS i11 i12 i13 i14 i15 i16
  clear i2 i3 i4 i5 i6 i12 i13 i14 i15 i16 hdt hcd hD ho
  clear i7 i8 i11
  generalize s₁.heap.objs.size = L at F N ⊢
  refine wpC_cut 4 (P4 s₁.heap L { s₁ with heap := h₁ }) ?_ (fun s' h4 => ?_)
  · simp only [List.take_succ_cons, List.take_zero]
    iterate 4 (first | (k_unfold; (try dsimp only)) | (k_end; wrow_close) | walk1 | (dsimp only; walk1))
    have hvl := hI.length
    refine sub_slice ?_
    iterate 1 (first | (k_unfold; (try dsimp only)) | (k_end; wrow_close) | walk1 | (dsimp only; walk1))
    dsimp only
    refine wpAny_evalPart_none ?_
    refine wpAny_evalPart_some ?_
    iterate 1 (first | (k_unfold; (try dsimp only)) | (k_end; wrow_close) | walk1 | (dsimp only; walk1))
    refine slice_ints F N (F.lst hL) (by omega) .none (.int _ _) (kmk_upto hI (by decide)) fun C1 ws1 h2 hi1 F2 N2 o2 => ?_
    clear F N
    dsimp only
    refine sub_slice ?_
    iterate 4 (first | (k_unfold; (try dsimp only)) | (k_end; wrow_close) | walk1 | (dsimp only; walk1))
    refine newList_K F2 N2 fun C2 h3 F3 N3 o3 => ?_
    clear F2 N2
    refine wpAny_evalPart_some ?_
    iterate 6 (first | (k_unfold; (try dsimp only)) | (k_end; wrow_close) | walk1 | (dsimp only; walk1))
    refine len_list (F3.lst hL) (by simp; omega) ?_
    refine wpAny_evalPart_none ?_
    have hi0 : ∀ t, IntsAre [Value.int 0 t] [0] := fun t => .cons 0 t .nil
    refine slice_ints F3 N3 ⟨_, (N3 _ (.head _)).1, rfl, _, rfl⟩ (by simp) (.int _ _) .none (kmk_from (hi0 _) (by omega)) fun C3 ws3 h4 hi3 F4 N4 o4 => ?_
    clear F3 N3
    refine add_ints F4 N4 (N4 _ (.tail _ (.tail _ (.head _)))).1 (N4 _ (.head _)).1 hi1 hi3 (by simp; omega) fun Nu vs h5 hi5 F5 N5 o5 => ?_
    have F5' := F5
    have N5' : News s₁.heap L h5 [(Nu, listOf vs.toArray 0)] := fun p hp => N5 p (by rw [List.mem_singleton.mp hp]; exact .head _)
    clear F4 N4 F5 N5
    obtain ⟨ns, hns, hne, hl24⟩ : ∃ ns, IntsAre vs ns ∧ ns ≠ [] ∧ ns.length ≤ 24 := by
      refine ⟨_, hi5, ?_, ?_⟩
      · rw [List.size_toArray, hvl]
        cases nsS <;> simp
      · simp
        omega
    clear hi5 hi3 hi1
    dsimp only
    clear o2 o3 o4 o5 hi0
    iterate 18 walk1
    rename IsRange _ _ _ _ _ _ _ _ => R6
    rename Fr s₁.heap _ _ _ => F6
    rename News s₁.heap _ _ _ => N6
    rename IntsAre vs ns => hns
    refine list_range_L F6 N6 rfl R6 fun Rp h7 tk7 rv rn rs hrs hr254 hroct F7 N7 o7 => ?_
    clear R6 F6 N6
    dsimp only
    iterate 6 walk1
    rename Fr s₁.heap _ _ _ => F8
    rename News s₁.heap _ _ _ => N8
    refine newList_K F8 N8 fun Bk h9 F9 N9 o9 => ?_
    clear F8 N8
    iterate 6 walk1
    rename Fr s₁.heap _ _ _ => F8
    rename News s₁.heap _ _ _ => N8
    exact ⟨rfl, _, _, _, Nu, Rp, Bk, vs, rv, ns, 0, rn, _, rfl, F8, N8, (Nat.ne_of_lt (o9 _ (.head _))).symm, (Nat.ne_of_lt (o9 _ (.tail _ (.head _)))).symm, (o7 _ (.head _)).symm, hns, hne, hl24, rs, hrs, hr254, hroct⟩
  simp only [List.drop_succ_cons, List.drop_zero]
  clear F N
  obtain ⟨h, tk, u, Nu, Rp, Bk, vs, rv, ns, nn, rn, tw, rfl, F, N, hBR, hBN, hRN, hns, hne, hl24, rs, hrs, hr254, hroct⟩ := h4
  dsimp only
  have hvl := hns.length
  refine wpC_cut 1 (P5 s₁.heap L Nu vs nn { s₁ with heap := h, toks := tk }) ?_ (fun s' h5 => ?_)
  · simp only [List.take_succ_cons, List.take_zero]
    iterate 3 (first | (k_unfold; (try dsimp only)) | (k_end; wrow_close) | walk1 | (dsimp only; walk1))
    rename Fr s₁.heap _ _ _ => F
    rename News s₁.heap _ _ _ => N
    refine iter_G (J1 Bk Rp Nu [(Rp, listOf rv.toArray rn), (Nu, listOf vs.toArray nn)]) rfl (.tail _ (.tail _ (.head _))) F N ⟨u, 0, tw, 0, [], rfl, rfl, (fun _ h => (nomatch h)), Nat.le_refl _, ?_⟩ ?_ ?_
    · simp
      exact ⟨⟨hBR, hBN⟩, hRN⟩
    · clear F N
      rintro i v m₁ news₁ h tk io hv hl hio ⟨u, wide, tw, bn, blks, rfl, rfl, hblk, hbl, hnd⟩ F N
      obtain ⟨n, t, rfl⟩ : ∃ n t, v = .int n t := by
        have hlt : i < ns.length := by
          have := (List.getElem?_eq_some_iff.mp hv).1
          omega
        obtain ⟨t, hx⟩ := hns.get i ns[i] (by simp [hlt])
        rw [hv] at hx
        exact ⟨_, t, Option.some.inj hx⟩
      change Fr s₁.heap L h _ at F
      change News s₁.heap L h _ at N
      dsimp only at F ⊢
      refine wpAny_cut 2 (PT s₁.heap L Bk Rp Nu [(Rp, listOf rv.toArray rn), (Nu, listOf vs.toArray nn)] io n t wide tw i { s₁ with heap := h, toks := tk }) ?_ (fun s' h6 => ?_)
      · simp only [List.take_succ_cons, List.take_zero]
        iterate 9 (first | (k_unfold; (try dsimp only)) | (k_end; wrow_close) | walk1 | (dsimp only; walk1))
        rename Fr s₁.heap _ _ _ => F7
        rename News s₁.heap _ _ _ => N7
        refine wpAny_mono (Q := fun c s' => ∃ h' tk', s' = { s₁ with heap := h', toks := tk' } ∧ Fr s₁.heap L h' (fun y => if y = Str.ofString "rest" then some (.int (Int.fdiv n 4) (tk + 1)) else if y = Str.ofString "number" then some (.int n t) else if y = Str.ofString "wide" then some (.int wide tw) else if y = Str.ofString "blocks" then some (.ref Bk) else if y = Str.ofString "ramp" then some (.ref Rp) else if y = Str.ofString "numbers" then some (.ref Nu) else u y) ∧ News s₁.heap L h' (io :: (Bk, listOf (refsOf blks).toArray bn) :: (blks ++ [(Rp, listOf rv.toArray rn), (Nu, listOf vs.toArray nn)])) ∧ (c = false → ∃ (D : Addr) (bv : List Value) (bs : List Int) (dn : Nat) (bl : List (Addr × Obj)), blks = (D, listOf bv.toArray dn) :: bl ∧ IntsAre bv bs ∧ (∀ k ∈ bs, 0 ≤ k ∧ k < 256) ∧ bs.length ≤ 253)) ?_ (fun c s' h => ?_) (fun _ _ x => x)
        · iterate 9 (first | (k_unfold; (try dsimp only)) | (k_end; wrow_close) | walk1 | (dsimp only; walk1))
          by_cases hm : (Int.fmod n 4 == 0) = true
          · exact (if_pos hm).mpr ⟨_, _, rfl, F7, N7, fun h => (nomatch h)⟩
          refine (if_neg hm).mpr ?_
          iterate 6 (first | (k_unfold; (try dsimp only)) | (k_end; wrow_close) | walk1 | (dsimp only; walk1))
          rename Fr s₁.heap _ _ _ => F7
          rename News s₁.heap _ _ _ => N7
          rcases blks with _ | ⟨⟨D, oD⟩, bl⟩
          · refine P.eq_list (items := (refsOf []).toArray) (items2 := #[]) (e := fun _ => true) (N7 _ (.tail _ (.tail _ (.head _)))).1 (N7 _ (.head _)).1 rfl (fun j h1 => absurd h1 (Nat.not_lt_zero _)) (units_ok _) ?_
            refine wpAny_pure ?_
            exact (if_pos rfl).mpr ⟨_, _, rfl, F7, fun p hp => N7 p (.tail _ hp), fun h => (nomatch h)⟩
          obtain ⟨bv, bs, dn, e, hbv, hbo, hbz⟩ := hblk _ (.head _)
          dsimp only at e
          subst e
          refine P.eq_list_lengths (items := (refsOf ((D, listOf bv.toArray dn) :: bl)).toArray) (items2 := #[]) (N7 _ (.tail _ (.tail _ (.head _)))).1 (N7 _ (.head _)).1 (by simp [refsOf]) (units_ok _) ?_
          refine wpAny_pure ?_
          refine (if_neg Bool.false_ne_true).mpr ?_
          iterate 11 (first | (k_unfold; (try dsimp only)) | (k_end; wrow_close) | walk1 | (dsimp only; walk1))
          refine last_item (N7 _ (.tail _ (.tail _ (.head _)))).1 ?_
          iterate 1 (first | (k_unfold; (try dsimp only)) | (k_end; wrow_close) | walk1 | (dsimp only; walk1))
          refine len_list ⟨_, (N7 _ (.tail _ (.tail _ (.tail _ (.head _))))).1, rfl, _, rfl⟩ (by have := hbv.length; simp; omega) ?_
          iterate 3 (first | (k_unfold; (try dsimp only)) | (k_end; wrow_close) | walk1 | (dsimp only; walk1))
          by_cases h254 : (((bv.toArray.size : Nat) : Int) == 254) = true
          · exact (if_pos h254).mpr ⟨_, _, rfl, F7, fun p hp => N7 p (.tail _ hp), fun h => (nomatch h)⟩
          · refine (if_neg h254).mpr ?_
            iterate 1 (first | (k_unfold; (try dsimp only)) | (k_end; wrow_close) | walk1 | (dsimp only; walk1))
            refine ⟨_, _, rfl, F7, fun p hp => N7 p (.tail _ hp), fun _ => ⟨D, bv, bs, dn, bl, rfl, hbv, hbo, ?_⟩⟩
            have := hbv.length
            simp at h254
            omega
        · clear F7 N7
          obtain ⟨h7, tk7, rfl, F7, N7, hc⟩ := h
          cases c with
          | false =>
            refine (if_neg Bool.false_ne_true).mpr ?_
            obtain ⟨D, bv, bs, dn, bl, rfl, hbv, hbo, hbz⟩ := hc rfl
            exact wpAny_execs_nil (wpAny_execs_nil ⟨rfl, h7, tk7, u, bn, D, bv, bs, dn, bl, _, _, rfl, F7, N7, hbv, hbo, hbz, fun p hp => hblk p (.tail _ hp), by simp at hbl; omega, hnd, hio⟩)
          | true =>
            refine (if_pos rfl).mpr ?_
            iterate 11 (first | (k_unfold; (try dsimp only)) | (k_end; wrow_close) | walk1 | (dsimp only; walk1))
            rename Fr s₁.heap _ _ _ => F8
            rename News s₁.heap _ _ _ => N8
            rename _ ∧ _ ∧ AllLt _ _ => hlt
            obtain ⟨hlt1, hlt2, hlt3⟩ := hlt
            have hbz : (refsOf blks).length = blks.length := by simp [refsOf]
            have hsz : i < vs.length := (List.getElem?_eq_some_iff.mp hv).1
            have hoff : ∀ p ∈ blks ++ [(Rp, listOf rv.toArray rn), (Nu, listOf vs.toArray nn)], p.1 ≠ Bk := fun p hp e => by
              have := (List.nodup_cons.mp hnd).1
              exact this (List.mem_map.mpr ⟨p, hp, e⟩)
            refine append_K F8 N8 (.tail (Nat.ne_of_gt hlt2) (.tail (Ne.symm (hio _ (.head _))) (.head hoff))) (fun h9 F9 N9 => ?_) (by rw [List.size_toArray, hbz, sizeLine_eq]; omega)
            refine wpAny_execs_nil (wpAny_execs_nil ⟨rfl, ?_⟩)
            refine PT.of_append F9 N9 (bo := bn) (fun p hp => ?_) hblk hbl hnd hio
            rcases List.mem_cons.mp hp with rfl | hp
            · exact Nat.ne_of_lt hlt1
            · rcases List.mem_cons.mp hp with rfl | hp
              · exact Nat.ne_of_lt hlt2
              · exact Nat.ne_of_lt (allLt_mem hlt3 p hp)
      · simp only [List.drop_succ_cons, List.drop_zero]
        clear F N
        obtain ⟨h, tk, u, bn, D, bv, bs, dn, blks, rest, tr, rfl, F, N, hbv, hbo, hbz, hblk, hbl, hnd, hio⟩ := h6
        dsimp only
        iterate 2 (first | (k_unfold; (try dsimp only)) | (k_end; wrow_close) | walk1 | (dsimp only; walk1))
        rename Fr s₁.heap _ _ _ => F
        rename News s₁.heap _ _ _ => N
        refine wpAny_mono (Q := fun c s' => ∃ tk', s' = { s₁ with heap := h, toks := tk' }) ?_ (fun c s' hq => ?_) (fun _ _ x => x)
        · iterate 9 (first | (k_unfold; (try dsimp only)) | (k_end; wrow_close) | walk1 | (dsimp only; walk1))
          by_cases h3 : (Int.fmod n 4 == 3) = true
          · refine (if_pos h3).mpr ?_
            iterate 6 (first | (k_unfold; (try dsimp only)) | (k_end; wrow_close) | walk1 | (dsimp only; walk1))
            by_cases hw : decide (wide < 3) = true
            · refine (if_pos hw).mpr ?_
              iterate 1 (first | (k_unfold; (try dsimp only)) | (k_end; wrow_close) | walk1 | (dsimp only; walk1))
              exact ⟨_, rfl⟩
            · exact (if_neg hw).mpr ⟨_, rfl⟩
          · exact (if_neg h3).mpr ⟨_, rfl⟩
        · obtain ⟨tk1, rfl⟩ := hq
          have hlo : (Nu, listOf vs.toArray nn) ∈ [(Rp, listOf rv.toArray rn), (Nu, listOf vs.toArray nn)] := .tail _ (.head _)
          cases c with
          | true =>
            refine (if_pos rfl).mpr ?_
            iterate 1 (first | (k_unfold; (try dsimp only)) | (k_end; wrow_close) | walk1 | (dsimp only; walk1))
            iterate 5 (first | (k_unfold; (try dsimp only)) | (k_end; wrow_close) | walk1 | (dsimp only; walk1))
            refine wpAny_execs_cons ?_
            refine wpAny_AugAssign_Subscript_any ?_
            rename Fr s₁.heap _ _ _ => F
            rename News s₁.heap _ _ _ => N
            iterate 4 (first | (k_unfold; (try dsimp only)) | (k_end; wrow_close) | walk1 | (dsimp only; walk1))
            refine wpAny_getItem_list_neg ⟨_, (N _ (.tail _ (.head _))).1, rfl, _, rfl⟩ (by decide) (by rw [refs_size]; omega) (by decide) (refs_last _ _ _) ?_
            refine sub_slice ?_
            iterate 1 (first | (k_unfold; (try dsimp only)) | (k_end; wrow_close) | walk1 | (dsimp only; walk1))
            refine wpAny_evalPart_some ?_
            iterate 9 (first | (k_unfold; (try dsimp only)) | (k_end; wrow_close) | walk1 | (dsimp only; walk1))
            refine last_item (N _ (.tail _ (.head _))).1 ?_
            iterate 1 (first | (k_unfold; (try dsimp only)) | (k_end; wrow_close) | walk1 | (dsimp only; walk1))
            refine len_list ⟨_, (N _ (.tail _ (.tail _ (.head _)))).1, rfl, _, rfl⟩ (by have := hbv.length; simp; omega) ?_
            dsimp only
            refine wpAny_evalPart_some ?_
            iterate 10 (first | (k_unfold; (try dsimp only)) | (k_end; wrow_close) | walk1 | (dsimp only; walk1))
            dsimp only
            iterate 10 (first | (k_unfold; (try dsimp only)) | (k_end; wrow_close) | walk1 | (dsimp only; walk1))
            dsimp only
            rename Fr s₁.heap _ _ _ => F
            rename News s₁.heap _ _ _ => N
            refine item3 ⟨_, (N _ (.head _)).1, rfl, _, rfl⟩ fun K tK hK0 hK1 => ?_
            have hsb := hbv.length
            have hsr := hrs.length
            refine slice_ints F N ⟨_, (N (Rp, listOf rv.toArray rn) (.tail _ (.tail _ (.tail _ (List.mem_append_right (_ :: _) (.head _)))))).1, rfl, _, rfl⟩ (by omega) (.int _ _) (.int _ _) (kmk_run hrs (Int.natCast_nonneg _) hK0) fun C ws h9 hiw F9 N9 o9 => ?_
            clear F N
            obtain ⟨hBD, hoD⟩ := led_off hnd
            change News s₁.heap L h9 (_ :: _ :: io :: (Bk, _) :: (D, listOf bv.toArray dn) :: (blks ++ _)) at N9
            dsimp only
            have N9' := news_sub (ys := (D, listOf bv.toArray dn) :: io :: (Bk, listOf (refsOf ((D, listOf bv.toArray dn) :: blks)).toArray bn) :: (blks ++ [(Rp, listOf rv.toArray rn), (Nu, listOf vs.toArray nn)])) N9 fun p hp => .tail _ (.tail _ (sub_13 p hp))
            have hbC := (N9 _ (.head _)).1
            clear N9
            refine iadd_ints F9 N9' ?_ hbC hbv hiw (by rw [List.length_take, List.length_drop]; omega) fun us n' h10 hi10 F10 N10 => ?_
            · intro p hp
              rcases List.mem_cons.mp hp with rfl | hp
              · exact Ne.symm (hio (D, _) (.tail _ (.head _)))
              · rcases List.mem_cons.mp hp with rfl | hp
                · exact hBD
                · exact hoD p hp
            clear F9 N9' hbC
            dsimp only
            refine setItem_last (N10 _ (.tail _ (.tail _ (.head _)))).1 (refs_last' _ _ _) fun h11 e11 hs11 => ?_
            obtain ⟨F11, N11⟩ := ledger_upd F10 (news_sub (ys := (Bk, listOf (refsOf ((D, listOf bv.toArray dn) :: blks)).toArray bn) :: (D, listOf us.toArray n') :: io :: (blks ++ [(Rp, listOf rv.toArray rn), (Nu, listOf vs.toArray nn)])) N10 sub_13) hs11 e11 (offB hnd hio)
            have N12 := news_sub (ys := io :: (Bk, listOf (refsOf ((D, listOf bv.toArray dn) :: blks)).toArray bn) :: (D, listOf us.toArray n') :: (blks ++ [(Rp, listOf rv.toArray rn), (Nu, listOf vs.toArray nn)])) N11 sub_13
            clear F10 N10 N11
            refine wpAny_execs_nil (wpAny_execs_nil ?_)
            exact turn_end2 F11 N12 rfl rfl rfl rfl hi10 (oct_app hbo (oct_mid hroct)) (by simp only [List.length_append, List.length_take, List.length_drop, List.size_toArray, Int.toNat_natCast]; omega) hblk hbl hnd hio hlo
          | false =>
            refine (if_neg Bool.false_ne_true).mpr ?_
            iterate 10 (first | (k_unfold; (try dsimp only)) | (k_end; wrow_close) | walk1 | (dsimp only; walk1))
            by_cases h0 : (decide (0 < Int.fmod n 4)) = true
            · refine (if_pos h0).mpr ?_
              iterate 9 (first | (k_unfold; (try dsimp only)) | (k_end; wrow_close) | walk1 | (dsimp only; walk1))
              refine last_item (N _ (.tail _ (.head _))).1 ?_
              iterate 11 (first | (k_unfold; (try dsimp only)) | (k_end; wrow_close) | walk1 | (dsimp only; walk1))
              rename Fr s₁.heap _ _ _ => F
              rename News s₁.heap _ _ _ => N
              change News s₁.heap L h (io :: (Bk, _) :: (D, listOf bv.toArray dn) :: (blks ++ _)) at N
              obtain ⟨hBD, hoD⟩ := led_off hnd
              refine append_K F N (.tail (Ne.symm (hio (D, _) (.tail _ (.head _)))) (.tail hBD (.head hoD))) (fun h9 F9 N9 => ?_) (by have := hbv.length; rw [List.size_toArray, sizeLine_eq]; omega)
              rw [List.push_toArray] at N9
              refine wpAny_execs_nil (wpAny_execs_nil (wpAny_execs_nil ?_))
              exact turn_end2 F9 N9 rfl rfl rfl rfl (ints_snoc _ _ hbv) (oct_snoc hbo (fmod_oct _)) (by simp; omega) hblk hbl hnd hio hlo
            · refine (if_neg h0).mpr ?_
              refine wpAny_execs_nil (wpAny_execs_nil (wpAny_execs_nil ?_))
              exact turn_end F N rfl rfl rfl rfl (fun p hp => (List.mem_cons.mp hp).elim (fun e => e ▸ ⟨bv, bs, dn, rfl, hbv, hbo, by omega⟩) (hblk p)) (by simp; omega) hnd hio hlo
    · clear F N
      rintro m₁ news₁ h tk hl ⟨u, wide, tw, bn, blks, rfl, rfl, hblk, hbl, hnd⟩ F N
      refine wpAny_execs_nil ⟨rfl, h, tk, _, Bk, bn, blks, rfl, fr2 F rfl rfl, news_sub N (fun p hp => ?_), hblk, by omega⟩
      rcases List.mem_cons.mp hp with rfl | hp
      · exact .head _
      · refine .tail _ ?_
        rcases List.mem_append.mp hp with hp | hp
        · exact List.mem_append_left _ hp
        · exact List.mem_append_right _ (.tail _ hp)
  simp only [List.drop_succ_cons, List.drop_zero]
  clear F N
  obtain ⟨h, tk, u, Bk, bn, blks, rfl, F, N, hblk, hb24⟩ := h5
  dsimp only
  refine wpC_cut 2 (P7 s₁.heap L Nu vs nn { s₁ with heap := h, toks := tk }) ?_ (fun s' h7 => ?_)
  · simp only [List.take_succ_cons, List.take_zero]
    iterate 4 (first | (k_unfold; (try dsimp only)) | (k_end; wrow_close) | walk1 | (dsimp only; walk1))
    rename Fr s₁.heap _ _ _ => F
    rename News s₁.heap _ _ _ => N
    refine newList_K F N fun Rw h1 F1 N1 o1 => ?_
    clear F N
    iterate 2 (first | (k_unfold; (try dsimp only)) | (k_end; wrow_close) | walk1 | (dsimp only; walk1))
    rename Fr s₁.heap _ _ _ => F
    rename News s₁.heap _ _ _ => N
    with_unfolding_all refine For_invVF F rfl rfl ?_
    iterate 1 (first | (k_unfold; (try dsimp only)) | (k_end; wrow_close) | walk1 | (dsimp only; walk1))
    refine iter_G (J2 Rw Nu ((Bk, listOf (refsOf blks).toArray bn) :: (blks ++ [(Nu, listOf vs.toArray nn)]))) rfl (.tail _ (.head _)) F N ⟨_, [], [], 0, rfl, map2 rfl rfl, .nil, (fun _ h => (nomatch h)), Nat.le_refl _⟩ ?_ ?_
    · clear F N
      rintro i v m₁ news₁ h tk io hv hl hio ⟨u, rvs, rns, rn, rfl, rfl, hri, hro, hrl⟩ F N
      dsimp only at F N ⊢
      obtain ⟨⟨D, oD⟩, hp, rfl⟩ := refs_get hv
      obtain ⟨bv, bs, dn, e, hbv, hbo, hbz⟩ := hblk _ hp
      dsimp only at e F N ⊢
      subst e
      have hio' : ∀ (us' : List Value) (n' : Nat), ∀ p ∈ (Rw, listOf us'.toArray n') :: (Bk, listOf (refsOf blks).toArray bn) :: (blks ++ [(Nu, listOf vs.toArray nn)]), p.1 ≠ io.1 := fun us' n' p hp => by
        rcases List.mem_cons.mp hp with rfl | hp
        · exact hio (Rw, listOf rvs.toArray rn) (.head _)
        · exact hio p (.tail _ hp)
      change Fr s₁.heap L h _ at F
      change News s₁.heap L h _ at N
      iterate 13 (first | (k_unfold; (try dsimp only)) | (k_end; wrow_close) | walk1 | (dsimp only; walk1))
      rename Fr s₁.heap _ _ _ => F
      rename News s₁.heap _ _ _ => N
      have hsb := hbv.length
      have hgD := (N (D, listOf bv.toArray dn) (List.mem_append_left _ (List.mem_append_right [_, _, _] hp))).1
      refine len_list (items := bv.toArray) ⟨_, hgD, rfl, _, rfl⟩ (by simp; omega) ?_
      clear hgD
      iterate 3 (first | (k_unfold; (try dsimp only)) | (k_end; wrow_close) | walk1 | (dsimp only; walk1))
      dsimp only
      refine newList_K F N fun C1 h2 F2 N2 o2 => ?_
      clear F N
      iterate 1 (first | (k_unfold; (try dsimp only)) | (k_end; wrow_close) | walk1 | (dsimp only; walk1))
      have hgD := (N2 (D, listOf bv.toArray dn) (List.mem_append_left _ (List.mem_append_right [_, _, _, _] hp))).1
      refine add_ints F2 N2 (N2 _ (.head _)).1 hgD (.cons _ _ .nil) hbv (by simp; omega) fun C2 us h3 hi3 F3 N3 o3 => ?_
      clear F2 N2
      have hbC := (N3 _ (.head _)).1
      refine iadd_ints F3 (news_sub (ys := (Rw, listOf rvs.toArray rn) :: io :: (Bk, listOf (refsOf blks).toArray bn) :: (blks ++ [(Nu, listOf vs.toArray nn)])) N3 fun p hp => .tail _ (.tail _ (sub_12 p hp))) ?_ hbC hri hi3 ?_ fun us' n' h4 hi4 F4 N4 => ?_
      · intro p hp
        rcases List.mem_cons.mp hp with rfl | hp
        · exact Ne.symm (hio (Rw, _) (.head _))
        · exact Nat.ne_of_lt (o1 p hp)
      · have hsz : i < (refsOf blks).length := (List.getElem?_eq_some_iff.mp hv).1
        have : (refsOf blks).length = blks.length := by simp [refsOf]
        simp
        omega
      dsimp only
      clear F3 N3 hbC
      iterate 1 (first | (k_unfold; (try dsimp only)) | (k_end; wrow_close) | walk1 | (dsimp only; walk1))
      rename Fr s₁.heap _ _ _ => F
      rename News s₁.heap _ _ _ => N
      refine wpAny_execs_nil ?_
      refine ⟨_, _, _, (Rw, listOf us'.toArray n') :: (Bk, listOf (refsOf blks).toArray bn) :: (blks ++ [(Nu, listOf vs.toArray nn)]), rfl, F, news_sub N sub_12, hio' us' n', .tail _ (.head _), _, us', _, n', rfl, map2 rfl rfl, hi4, oct_app hro (oct_app (fun k hk => ?_) hbo), ?_⟩
      · rw [List.mem_singleton.mp hk, List.size_toArray]
        omega
      · simp
        omega
    · clear F N
      rintro m₁ news₁ h tk hl ⟨u, rvs, rns, rn, rfl, rfl, hri, hro, hrl⟩ F N
      have : (refsOf blks).length = blks.length := by simp [refsOf]
      refine wpAny_execs_nil ⟨rfl, h, tk, u, Rw, rn, rvs, rns, rfl, F, news_sub N (fun p hp => ?_), hri, hro, by omega⟩
      rcases List.mem_cons.mp hp with rfl | hp
      · exact .head _
      · exact .tail _ (List.mem_append_right (_ :: _) hp)
  simp only [List.drop_succ_cons, List.drop_zero]
  clear F N hblk
  obtain ⟨h, tk, u, Rw, rn, rvs, rns, rfl, F, N, hri, hro, hrl⟩ := h7
  dsimp only
  refine wpC_cut 3 (P10 s₁.heap L Nu vs nn { s₁ with heap := h, toks := tk }) ?_ (fun s' h10 => ?_)
  · simp only [List.take_succ_cons, List.take_zero]
    obtain ⟨n0, t0, e0⟩ := ints_fst hns hne
    obtain ⟨n1, t1, e1⟩ := ints_lst hns hne
    have hpos : 0 < vs.length := by rw [hvl]; exact List.length_pos_iff.mpr hne
    iterate 6 (first | (k_unfold; (try dsimp only)) | (k_end; wrow_close) | walk1 | (dsimp only; walk1))
    rename Fr s₁.heap _ _ _ => F
    rename News s₁.heap _ _ _ => N
    refine item_list ⟨_, (N _ (.tail _ (.head _))).1, rfl, _, rfl⟩ (by decide) (by decide) e0 ?_
    iterate 11 (first | (k_unfold; (try dsimp only)) | (k_end; wrow_close) | walk1 | (dsimp only; walk1))
    rename Fr s₁.heap _ _ _ => F
    rename News s₁.heap _ _ _ => N
    refine item_list ⟨_, (N _ (.tail _ (.head _))).1, rfl, _, rfl⟩ (by decide) (by decide) e0 ?_
    dsimp only
    iterate 8 (first | (k_unfold; (try dsimp only)) | (k_end; wrow_close) | walk1 | (dsimp only; walk1))
    refine item_neg ⟨_, (N _ (.tail _ (.head _))).1, rfl, _, rfl⟩ (by decide) (by rw [List.size_toArray]; omega) (by decide) e1 ?_
    dsimp only
    iterate 10 (first | (k_unfold; (try dsimp only)) | (k_end; wrow_close) | walk1 | (dsimp only; walk1))
    refine len_list (items := rvs.toArray) ⟨_, (N _ (.head _)).1, rfl, _, rfl⟩ (by have := hri.length; simp; omega) ?_
    iterate 2 (first | (k_unfold; (try dsimp only)) | (k_end; wrow_close) | walk1 | (dsimp only; walk1))
    have hk : ((rvs.toArray.size : Nat) : Int) + 1 ≠ 0 := by omega
    have hk' : (0 : Int) < ((rvs.toArray.size : Nat) : Int) + 1 := by omega
    dsimp only
    refine mod_int hk ?_
    dsimp only
    iterate 11 (first | (k_unfold; (try dsimp only)) | (k_end; wrow_close) | walk1 | (dsimp only; walk1))
    rename Fr s₁.heap _ _ _ => F
    rename News s₁.heap _ _ _ => N
    refine item_neg ⟨_, (N _ (.tail _ (.head _))).1, rfl, _, rfl⟩ (by decide) (by rw [List.size_toArray]; omega) (by decide) e1 ?_
    dsimp only
    iterate 5 (first | (k_unfold; (try dsimp only)) | (k_end; wrow_close) | walk1 | (dsimp only; walk1))
    dsimp only
    rename Fr s₁.heap _ _ _ => F
    rename News s₁.heap _ _ _ => N
    exact wpAny_execs_nil ⟨rfl, _, _, _, Rw, rn, rvs, rns, _, _, _, _, _, _, rfl, F, N, hri, hro, hrl, Int.fmod_nonneg_of_pos _ hk', Int.fmod_nonneg_of_pos _ (by decide), Int.fmod_lt_of_pos _ (by decide)⟩
  simp only [List.drop_succ_cons, List.drop_zero]
  clear F N hri hro hrl
  obtain ⟨h, tk, u, Rw, rn, rvs, rns, way, place, value, t₁, t₂, t₃, rfl, F, N, hri, hro, hrl, hpl, hv0, hv1⟩ := h10
  dsimp only
  refine wpC_cut 1 (P11 s₁.heap L { s₁ with heap := h, toks := tk }) ?_ (fun s' h11 => ?_)
  · simp only [List.take_succ_cons, List.take_zero]
    have hsr := hri.length
    iterate 7 (first | (k_unfold; (try dsimp only)) | (k_end; wrow_close) | walk1 | (dsimp only; walk1))
    rename Fr s₁.heap _ _ _ => F
    rename News s₁.heap _ _ _ => N
    by_cases hw1 : (way == 1) = true
    · refine (if_pos hw1).mpr ?_
      iterate 5 (first | (k_unfold; (try dsimp only)) | (k_end; wrow_close) | walk1 | (dsimp only; walk1))
      refine sub_slice ?_
      iterate 1 (first | (k_unfold; (try dsimp only)) | (k_end; wrow_close) | walk1 | (dsimp only; walk1))
      refine wpAny_evalPart_none ?_
      refine wpAny_evalPart_some ?_
      iterate 1 (first | (k_unfold; (try dsimp only)) | (k_end; wrow_close) | walk1 | (dsimp only; walk1))
      refine slice_ints F N ⟨_, (N _ (.head _)).1, rfl, _, rfl⟩ (by omega) .none (.int _ _) (kmk_upto hri hpl) fun C1 ws1 h1 hi1 F1 N1 o1 => ?_
      clear F N
      dsimp only
      iterate 4 (first | (k_unfold; (try dsimp only)) | (k_end; wrow_close) | walk1 | (dsimp only; walk1))
      refine newList_K F1 N1 fun C2 h2 F2 N2 o2 => ?_
      clear F1 N1
      dsimp only
      refine add_ints F2 N2 (N2 _ (.tail _ (.head _))).1 (N2 _ (.head _)).1 hi1 (.cons _ _ .nil) (by simp; omega) fun C3 ws3 h3 hi3 F3 N3 o3 => ?_
      clear F2 N2
      refine sub_slice ?_
      iterate 1 (first | (k_unfold; (try dsimp only)) | (k_end; wrow_close) | walk1 | (dsimp only; walk1))
      refine wpAny_evalPart_some ?_
      iterate 4 (first | (k_unfold; (try dsimp only)) | (k_end; wrow_close) | walk1 | (dsimp only; walk1))
      refine wpAny_evalPart_none ?_
      refine slice_ints F3 N3 ⟨_, (N3 (Rw, _) (.tail _ (.tail _ (.tail _ (.head _))))).1, rfl, _, rfl⟩ (by omega) (.int _ _) .none (kmk_from hri (by omega)) fun C4 ws4 h4 hi4 F4 N4 o4 => ?_
      clear F3 N3
      dsimp only
      refine add_ints F4 N4 (N4 _ (.tail _ (.head _))).1 (N4 _ (.head _)).1 hi3 hi4 (by simp; omega) fun C5 ws5 h5 hi5 F5 N5 o5 => ?_
      clear F4 N4
      dsimp only
      iterate 1 (first | (k_unfold; (try dsimp only)) | (k_end; wrow_close) | walk1 | (dsimp only; walk1))
      rename Fr s₁.heap _ _ _ => F
      rename News s₁.heap _ _ _ => N
      refine wpAny_execs_nil (wpAny_execs_nil (⟨rfl, _, _, _, C5, 0, ws5, _, rfl, F, news_sub N (fun p hp => by rw [List.mem_singleton.mp hp]; exact .head _), hi5, oct_app (oct_snoc (oct_take hro) ⟨hv0, hv1⟩) (oct_drop hro), ?_⟩))
      simp only [List.length_append, List.length_take, List.length_drop, List.length_cons, List.length_nil]
      omega
    refine (if_neg hw1).mpr ?_
    iterate 8 (first | (k_unfold; (try dsimp only)) | (k_end; wrow_close) | walk1 | (dsimp only; walk1))
    by_cases hw2 : (way == 2) = true
    · refine (if_pos hw2).mpr ?_
      iterate 3 (first | (k_unfold; (try dsimp only)) | (k_end; wrow_close) | walk1 | (dsimp only; walk1))
      refine sub_slice ?_
      iterate 1 (first | (k_unfold; (try dsimp only)) | (k_end; wrow_close) | walk1 | (dsimp only; walk1))
      refine wpAny_evalPart_none ?_
      refine wpAny_evalPart_some ?_
      iterate 1 (first | (k_unfold; (try dsimp only)) | (k_end; wrow_close) | walk1 | (dsimp only; walk1))
      refine slice_ints F N ⟨_, (N _ (.head _)).1, rfl, _, rfl⟩ (by omega) .none (.int _ _) (kmk_upto hri hpl) fun C1 ws1 h1 hi1 F1 N1 o1 => ?_
      clear F N
      dsimp only
      iterate 1 (first | (k_unfold; (try dsimp only)) | (k_end; wrow_close) | walk1 | (dsimp only; walk1))
      rename Fr s₁.heap _ _ _ => F
      rename News s₁.heap _ _ _ => N
      refine wpAny_execs_nil (wpAny_execs_nil (wpAny_execs_nil (⟨rfl, _, _, _, C1, 0, ws1, _, rfl, F, news_sub N (fun p hp => by rw [List.mem_singleton.mp hp]; exact .head _), hi1, oct_take hro, ?_⟩)))
      simp only [List.length_take]
      omega
    refine (if_neg hw2).mpr ?_
    iterate 8 (first | (k_unfold; (try dsimp only)) | (k_end; wrow_close) | walk1 | (dsimp only; walk1))
    by_cases hw3 : (way == 3) = true
    · refine (if_pos hw3).mpr ?_
      iterate 5 (first | (k_unfold; (try dsimp only)) | (k_end; wrow_close) | walk1 | (dsimp only; walk1))
      refine sub_slice ?_
      iterate 1 (first | (k_unfold; (try dsimp only)) | (k_end; wrow_close) | walk1 | (dsimp only; walk1))
      refine wpAny_evalPart_none ?_
      refine wpAny_evalPart_some ?_
      iterate 1 (first | (k_unfold; (try dsimp only)) | (k_end; wrow_close) | walk1 | (dsimp only; walk1))
      refine slice_ints F N ⟨_, (N _ (.head _)).1, rfl, _, rfl⟩ (by omega) .none (.int _ _) (kmk_upto hri hpl) fun C1 ws1 h1 hi1 F1 N1 o1 => ?_
      clear F N
      dsimp only
      iterate 4 (first | (k_unfold; (try dsimp only)) | (k_end; wrow_close) | walk1 | (dsimp only; walk1))
      refine newList_K F1 N1 fun C2 h2 F2 N2 o2 => ?_
      clear F1 N1
      dsimp only
      refine add_ints F2 N2 (N2 _ (.tail _ (.head _))).1 (N2 _ (.head _)).1 hi1 (.cons _ _ .nil) (by simp; omega) fun C3 ws3 h3 hi3 F3 N3 o3 => ?_
      clear F2 N2
      refine sub_slice ?_
      iterate 1 (first | (k_unfold; (try dsimp only)) | (k_end; wrow_close) | walk1 | (dsimp only; walk1))
      refine wpAny_evalPart_some ?_
      iterate 1 (first | (k_unfold; (try dsimp only)) | (k_end; wrow_close) | walk1 | (dsimp only; walk1))
      refine wpAny_evalPart_none ?_
      refine slice_ints F3 N3 ⟨_, (N3 (Rw, _) (.tail _ (.tail _ (.tail _ (.head _))))).1, rfl, _, rfl⟩ (by omega) (.int _ _) .none (kmk_from hri hpl) fun C4 ws4 h4 hi4 F4 N4 o4 => ?_
      clear F3 N3
      dsimp only
      refine add_ints F4 N4 (N4 _ (.tail _ (.head _))).1 (N4 _ (.head _)).1 hi3 hi4 (by simp; omega) fun C5 ws5 h5 hi5 F5 N5 o5 => ?_
      clear F4 N4
      dsimp only
      iterate 1 (first | (k_unfold; (try dsimp only)) | (k_end; wrow_close) | walk1 | (dsimp only; walk1))
      rename Fr s₁.heap _ _ _ => F
      rename News s₁.heap _ _ _ => N
      refine wpAny_execs_nil (wpAny_execs_nil (wpAny_execs_nil (wpAny_execs_nil (⟨rfl, _, _, _, C5, 0, ws5, _, rfl, F, news_sub N (fun p hp => by rw [List.mem_singleton.mp hp]; exact .head _), hi5, oct_app (oct_snoc (oct_take hro) ⟨hv0, hv1⟩) (oct_drop hro), ?_⟩))))
      simp only [List.length_append, List.length_take, List.length_drop, List.length_cons, List.length_nil]
      omega
    refine (if_neg hw3).mpr ?_
    iterate 8 (first | (k_unfold; (try dsimp only)) | (k_end; wrow_close) | walk1 | (dsimp only; walk1))
    by_cases hw4 : (way == 4) = true
    · refine (if_pos hw4).mpr ?_
      iterate 2 (first | (k_unfold; (try dsimp only)) | (k_end; wrow_close) | walk1 | (dsimp only; walk1))
      with_reducible apply Assign_ListComp_DCn (K := ItemKind.int) (pz := fun _ => true) (d := fun a => PyData.int (Int.fmod a 256)) (h₀ := s₁.heap) (L := L)
      case hsw => with_unfolding_all rfl
      case hL => with_unfolding_all rfl
      case hh => with_unfolding_all rfl
      case hclos => with_unfolding_all rfl
      case hcell => decide
      case hkind => with_unfolding_all rfl
      case hnames => decide
      case hx => with_unfolding_all rfl
      case hy => with_unfolding_all rfl
      case hp => with_unfolding_all rfl
      case hs => intro _; with_unfolding_all rfl
      iterate 1 (first | (k_unfold; (try dsimp only)) | (k_end; wrow_close) | walk1 | (dsimp only; walk1))
      refine ⟨_, Nu, vs, ns, rfl, ⟨_, (N _ (.tail _ (.head _))).1, rfl, _, rfl⟩, hns.areOf, by rw [sizeLine_eq]; omega, F, N, ?_, ?_, ?_⟩
      · intro C a v s₂ m₂ E' _ _ _ _ _ _
        exact wpAny_pure ⟨rfl, _, _, rfl, fun _ _ e => e⟩
      · rintro C a v s₂ m₂ E' _ _ ⟨t, rfl⟩ _ hn hm _
        exact wpAny_BinOp (wpAny_Name (wpAny_loadName_local rfl rfl hn hm (wpAny_Constant_int (mod_int (by decide) ⟨.int _ _, _, _, rfl, fun _ _ e => e⟩))))
      · intro D ys h' tk F1 N1 hD hL P hc
        have hc' : CarriedAll ys (ns.map fun a => PyData.int (Int.fmod a 256)) := by
          have e : ns.filter (fun _ => true) = ns := List.filter_eq_self.mpr fun _ _ => rfl
          rw [e] at hc
          exact hc
        have hi := CarriedAll.intsOf hc'
        have hDL := P.ne_locals F1
        obtain ⟨⟨n, e⟩, ho⟩ := P
        refine wpAny_execs_nil (wpAny_execs_nil (wpAny_execs_nil (wpAny_execs_nil (wpAny_execs_nil ⟨rfl, _, _, _, D, n, ys, _, rfl, F1, (fun p hp => by rw [List.mem_singleton.mp hp]; exact ⟨e, hDL, hD⟩), hi, ?_, ?_⟩))))
        · intro k hk
          obtain ⟨a, _, rfl⟩ := List.mem_map.mp hk
          exact ⟨Int.fmod_nonneg_of_pos _ (by decide), Int.fmod_lt_of_pos _ (by decide)⟩
        · rw [List.length_map]
          omega
    refine (if_neg hw4).mpr ?_
    refine wpAny_execs_nil (wpAny_execs_nil (wpAny_execs_nil (wpAny_execs_nil (wpAny_execs_nil ⟨rfl, _, _, _, Rw, rn, rvs, rns, rfl, fr1 F rfl, news_sub N (fun p hp => by rw [List.mem_singleton.mp hp]; exact .head _), hri, hro, by omega⟩))))
  simp only [List.drop_succ_cons, List.drop_zero]
  clear F N hri hro hrl hpl hv0 hv1
  obtain ⟨h, tk, u, Rw, rn, rvs, rns, rfl, F, N, hri, hro, hrl⟩ := h11
  dsimp only
  refine wpC_cut 1 (P12 s₁.heap L { s₁ with heap := h, toks := tk }) ?_ (fun s' h12 => ?_)
  · simp only [List.take_succ_cons, List.take_zero]
    iterate 9 (first | (k_unfold; (try dsimp only)) | (k_end; wrow_close) | walk1 | (dsimp only; walk1))
    rename Fr s₁.heap _ _ _ => F
    rename News s₁.heap _ _ _ => N
    refine read_call K0 F KX N T rfl rfl rfl rfl (depth_ok _) (.head _) hri hro (by omega) fun v' h' tk' hd' F' N' => ?_
    clear F N
    dsimp only
    iterate 1 (first | (k_unfold; (try dsimp only)) | (k_end; wrow_close) | walk1 | (dsimp only; walk1))
    rename Fr s₁.heap _ _ _ => F
    rename News s₁.heap _ _ _ => N
    exact wpAny_execs_nil ⟨rfl, _, _, _, Rw, rn, rvs, rns, v', rfl, F, N, hri, hro, hrl, hd'⟩
  simp only [List.drop_succ_cons, List.drop_zero]
  clear F N hri hro hrl
  obtain ⟨h, tk, u, Rw, rn, rvs, rns, due, rfl, F, N, hri, hro, hrl, hdue⟩ := h12
  dsimp only
  refine wpC_execs_cons (wpC_Assign_Name ?_)
  rw [arm_eval_Call_Name']
  refine wpC_lift ?_
  walk1
  refine wpC_callWith_machine rfl rfl ?_
  rename Fr s₁.heap _ _ _ => F
  rename News s₁.heap _ _ _ => N
  refine evalArgs_plain (PySem.Calls.spliced_cons ?_)
  walk1
  walk1
  refine PySem.Calls.spliced_nil ?_
  dsimp only
  refine ba_make1 rfl ⟨_, (N _ (.head _)).1, rfl, _, rfl⟩ hri hro (by rw [sizeLine_eq]; omega) fun h3 e3 keep3 => ?_
  have F3 := Fr.keeps F keep3
  have N3 := news_pushed (s := ⟨_, _, _, _, _⟩) F N keep3 e3 rfl
  generalize hHd : (Array.size _ : Nat) = Hd at F3 N3 e3 ⊢
  refine stN F3 N3 (fun h4 F4 N4 => ?_)
  clear F3 N3 e3 keep3 F N
  dsimp only
  have hsr := hri.length
  refine wpC_execs_cons (wpC_mono (Q := fun f s' => f = .next ∧ PH s₁.heap L Hd Rw due [(Hd, baObj (byteArr rns)), (Rw, listOf rvs.toArray rn)] s₁ s') (E := fun _ _ => False) ?_ (fun f s' hq => ?_) (fun _ _ x => x))
  · refine wpC_For ?_
    iterate 8 (first | (k_unfold; (try dsimp only)) | (k_end; wrow_close) | walk1 | (dsimp only; walk1))
    refine KBa.make_K F4 N4 rfl (News.isList N4 (.tail _ (.head _))) hri hro (by omega) fun h5 t5 k5 F5 N5 _ => ?_
    clear F4 N4
    dsimp only
    iterate 3 (first | (k_unfold; (try dsimp only)) | (k_end; wrow_close) | walk1 | (dsimp only; walk1))
    rename Fr s₁.heap _ _ _ => F5
    rename News s₁.heap _ _ _ => N5
    refine newList_K F5 N5 fun Ls h6 F6 N6 o6 => ?_
    clear F5 N5
    refine wpAny_pyIter_list (items := [Value.bytes (byteArr rns) t5, Value.ref Hd].toArray) ⟨_, (N6 _ (.head _)).1, rfl, _, rfl⟩ ?_
    dsimp only
    have hk6 : ∀ b o, h6.get? b = some o → (h6.push { cls := .type "list_iterator", data := .fields #[.ref Ls, .int 0 0] }).get? b = some o := fun b o e => Heap.get?_push_of_some _ e
    have e6 : (h6.push { cls := .type "list_iterator", data := .fields #[.ref Ls, .int 0 0] }).get? h6.objs.size = some { cls := .type "list_iterator", data := .fields #[.ref Ls, .int 0 0] } := Heap.get?_push_size _ rfl
    have F7 := Fr.keeps F6 hk6
    have N7 := news_pushed (s := ⟨h6, s₁.gens, s₁.drawn, k5, s₁.os⟩) F6 N6 hk6 e6 rfl
    have hI : ∀ p ∈ [(Ls, listOf [Value.bytes (byteArr rns) t5, Value.ref Hd].toArray 0), (Hd, baObj (byteArr rns)), (Rw, listOf rvs.toArray rn)], p.1 ≠ h6.objs.size := fun p hp => Nat.ne_of_lt (Heap.lt_size (N6 p hp).1)
    have it7 : (h6.push { cls := .type "list_iterator", data := .fields #[.ref Ls, .int 0 0] }).IsListIter h6.objs.size Ls 0 := ⟨_, e6, rfl, rfl⟩
    clear F6 N6 hk6 e6
    generalize (h6.push { cls := .type "list_iterator", data := .fields #[.ref Ls, .int 0 0] }) = h7 at F7 N7 it7 ⊢
    generalize h6.objs.size = I at F7 N7 it7 hI ⊢
    refine codeC_for_N (s := s₁) (fun _ m => JH Hd Rw due m) rfl rfl rfl (.head _) hI ?_ ?_ 2 0 h7 k5 _ _ rfl it7 F7 N7 ⟨_, rfl⟩
    · clear F7 N7 it7
      rintro i v m o h tk hv ⟨u, rfl⟩ F N
      change Fr s₁.heap L h _ at F
      change News s₁.heap L h _ at N
      dsimp only at F
      have hvv : (∃ t, v = .bytes (byteArr rns) t) ∨ (∃ d, v = .ref d ∧ (d, baObj (byteArr rns)) ∈ [(I, o), (Ls, listOf [Value.bytes (byteArr rns) t5, Value.ref Hd].toArray 0), (Hd, baObj (byteArr rns)), (Rw, listOf rvs.toArray rn)]) := by
        rcases i with _ | _ | i
        · exact .inl ⟨t5, (Option.some.inj hv).symm⟩
        · exact .inr ⟨Hd, (Option.some.inj hv).symm, .tail _ (.tail _ (.head _))⟩
        · simp at hv
      have hbz : (byteArr rns).size ≤ 1000000 := by
        have : (byteArr rns).size = rns.length := byteArr_size _
        omega
      refine wpC_execs_cons (wpC_mono (Q := fun f s' => f = .next ∧ PD s₁.heap L Hd Rw due rns [(I, o), (Ls, listOf [Value.bytes (byteArr rns) t5, Value.ref Hd].toArray 0), (Hd, baObj (byteArr rns)), (Rw, listOf rvs.toArray rn)] s₁ s') (E := fun _ _ => False) ?_ (fun f s' hq => ?_) (fun _ _ x => x))
      · refine wpC_Try_except ?_
        refine wpC_execs_cons (wpC_Assign_Name ?_)
        rw [arm_eval_Call_Name']
        refine wpC_lift ?_
        walk1
        rename Fr s₁.heap _ _ _ => F
        rename News s₁.heap _ _ _ => N
        obtain ⟨o34, fd34, e34, d34⟩ := dec_at w KX
        refine wpC_callWith_function (o := o34) (fd := fd34) rfl (show 1 ≤ 30 by decide) ?_
        refine evalArgs_plain (PySem.Calls.spliced_cons ?_)
        iterate 2 walk1
        refine PySem.Calls.spliced_nil ?_
        refine ⟨⟨F.keep _ _ e34, d34⟩, ?_⟩
        dsimp only
        refine decode_call K0 F KX N T rfl rfl rfl rfl rfl (depth_ok _) hvv hbz (fun t h' tk' tk'' hrd F' N' => ?_) (fun e t vs h' tk' g hrd F' R' U' => ?_)
        · refine stN F' N' (fun h9 F9 N9 => ?_)
          refine wpC_execs_nil (wpC_execs_nil ⟨rfl, h9, _, _, _, rfl, fr4 F9 rfl rfl rfl rfl, N9, due_some hrd⟩)
        · clear F N
          k_dflt (refine' caught_O0 (name := Str.ofString "law") (a := fa) (cd := cd) (outer := []) (A₀ := callerA) (bmB := [.type "Exception", .type "BaseException", .type "object"]) (newId := "Exception.__new__") K0 F' U' R' KX ?T ?ex ?q rfl ?_)
          case T => k_asm
          case ex => k_is
          case q => k_exc
          intro h9 news9 F9 N9' _ N9
          dsimp only
          clear N9' F' R' U'
          iterate 4 (first | (k_unfold; (try dsimp only)) | (k_end; wrow_close) | walk1 | (dsimp only; walk1))
          rename Fr s₁.heap _ _ _ => F9
          rename News s₁.heap _ _ _ => N9
          exact wpAny_execs_nil ⟨rfl, _, _, _, _, rfl, fr4 F9 rfl rfl rfl rfl, N9, due_none hrd⟩
      · obtain ⟨rfl, h, tk, u, told, rfl, F, N, hto⟩ := hq
        dsimp only
        refine wpC_of ?_
        unfold DueIs at hto hdue
        cases hrd : rd 0 false [] (byteArr rns).toList with
        | none =>
          rw [hrd] at hto hdue
          dsimp only at hto hdue
          subst hto hdue
          iterate 6 (first | (k_unfold; (try dsimp only)) | (k_end; wrow_close) | walk1 | (dsimp only; walk1))
          refine PySem.EqNone.ne_none_none ?_
          iterate 13 (first | (k_unfold; (try dsimp only)) | (k_end; wrow_close) | walk1 | (dsimp only; walk1))
          rename Fr s₁.heap _ _ _ => F
          rename News s₁.heap _ _ _ => N
          exact wpAny_execs_nil (wpAny_execs_nil ⟨rfl, _, _, _, rfl, F, N, _, map3 rfl rfl rfl⟩)
        | some t =>
          rw [hrd] at hto hdue
          dsimp only at hto hdue
          obtain ⟨t1, rfl⟩ := hto
          obtain ⟨t2, rfl⟩ := hdue
          iterate 6 (first | (k_unfold; (try dsimp only)) | (k_end; wrow_close) | walk1 | (dsimp only; walk1))
          refine ne_bytes ?_
          rw [show (t.toArray.toList != t.toArray.toList) = false from by simp]
          iterate 21 (first | (k_unfold; (try dsimp only)) | (k_end; wrow_close) | walk1 | (dsimp only; walk1))
          refine isi_by_by ?_
          iterate 5 (first | (k_unfold; (try dsimp only)) | (k_end; wrow_close) | walk1 | (dsimp only; walk1))
          rename Fr s₁.heap _ _ _ => F
          rename News s₁.heap _ _ _ => N
          exact wpAny_execs_nil (wpAny_execs_nil ⟨rfl, _, _, _, rfl, F, N, _, map3 rfl rfl rfl⟩)
    · intro h tk m hj F N
      exact ⟨rfl, h, tk, m, rfl, F, hj, fun p hp => N p (.tail _ hp)⟩
  obtain ⟨rfl, h, tk, m, rfl, F, ⟨u, rfl⟩, N⟩ := hq
  clear F4 N4
  dsimp only
  refine wpC_of ?_
  iterate 9 (first | (k_unfold; (try dsimp only)) | (k_end; wrow_close) | walk1 | (dsimp only; walk1))
  rename Fr s₁.heap _ _ _ => F
  rename News s₁.heap _ _ _ => N
  have hbz := byteArr_size rns
  refine ba_list rfl (N _ (.head _)).1 (by rw [sizeLine_eq]; omega) fun h9 tk9 acc c9 keep9 e9 it9 => ?_
  have F9 := Fr.keeps F keep9
  have eR := keep9 _ _ (N _ (.tail _ (.head _))).1
  clear F N
  dsimp only
  iterate 1 (first | (k_unfold; (try dsimp only)) | (k_end; wrow_close) | walk1 | (dsimp only; walk1))
  obtain ⟨hsz, hEq⟩ := held_eq it9 hri hro
  refine P.eq_list (items := acc) (items2 := rvs.toArray) (n := c9) (n2 := rn) (e := fun _ => true) e9 eR hsz hEq (units_ok _) ?_
  have hall : (List.range acc.size).all (fun _ => true) = true := List.all_eq_true.mpr fun _ _ => rfl
  rw [hall]
  exact ⟨rfl, F9.keep, rfl, hgens⟩
end Mine
end
theorem PySem.Challenge.cw_nc0004_01_holds : PySem.Challenge.rw_nc0004_01.Holds := by
  exact Mine.main

import PyProof.Rows.All
import Wide.All
import OpenK.AllK
import Wide.FinOn
import PySem.Challenge.RW_ko0101_01
open PySem PySem.W PyProof.Rows
set_option Elab.async false

namespace Mine
/-- a stop for the walk -/
def Rest (P : Prop) : Prop := P
theorem Rest.mk {P : Prop} (h : P) : Rest P := h
theorem Rest.out {P : Prop} (h : Rest P) : P := h

theorem wp_execs_split {M : Model} {Γ : Ctx} {env : Env} {rest : List Stmt} {Q : Flow → Pos → Shared → Prop} {E : Value → Pos → Shared → Prop} (a : List Stmt) :
    ∀ {p : Pos} {s : Shared}, Sem.wp M Γ (execs a env) (fun f p' s' => if f matches .next then Sem.wp M Γ (execs rest env) Q E p' s' else Q f p' s') E p s →
      Sem.wp M Γ (execs (a ++ rest) env) Q E p s := by
  induction a with
  | nil => intro p s h; exact h
  | cons st a ih =>
    intro p s h
    rw [List.cons_append, execs_cons, Sem.wp_bind']
    rw [execs_cons, Sem.wp_bind'] at h
    refine Sem.wp_mono M Γ _ (fun f p' s' hf => ?_) (fun _ _ _ e => e) p s h
    cases f with
    | next => exact ih hf
    | brk => exact hf
    | cont => exact hf
    | ret v => exact hf

theorem execs_split {M : Model} {A : Around} {E : Value → Shared → Prop} {s : Shared} {env : Env} {Q : Flow → Shared → Prop} (rest a : List Stmt)
    (h : wpAny M A (execs a env) (fun f s' => if f matches .next then Rest (wpAny M A (execs rest env) Q E s') else Q f s') E s) : wpAny M A (execs (a ++ rest) env) Q E s :=
  fun Γ p hΓ => wp_execs_split a (Sem.wp_mono M Γ _ (fun f p' s' hf => by
    cases f with
    | next => exact hf Γ p' hΓ
    | brk => exact hf
    | cont => exact hf
    | ret v => exact hf) (fun _ _ _ e => e) p s (h Γ p hΓ))

theorem execs_splitN {M : Model} {A : Around} {E : Value → Shared → Prop} {s : Shared} {env : Env} {Q : Flow → Shared → Prop} {l : List Stmt} (n : Nat)
    (h : wpAny M A (execs (l.take n) env) (fun f s' => if f matches .next then Rest (wpAny M A (execs (l.drop n) env) Q E s') else Q f s') E s) : wpAny M A (execs l env) Q E s := by
  have := execs_split (l.drop n) (l.take n) h
  rwa [List.take_append_drop] at this
end Mine

namespace Mine
section
variable {M : Model} {A : Around} {Φ : End → Shared → Prop} {c : Code} {fs : List Frame} {s : Shared} {env : Env}
  {K : Flow → Sem Fin} {H : Value → Sem Fin} {gd : Bool → Bool} {lv : List Value → List Value}

/-- a generator's code runs from here to its next stop -/
def Sg (M : Model) (A : Around) (Φ : End → Shared → Prop) (c : Code) (t : Sem Fin) (fs : List Frame) (s : Shared) : Prop :=
  ∀ Γ p, Γ.code = c → Γ.Woken A → ∃ e s', Runs M Γ p t fs s e s' ∧ (e.quiet = true ∧ Φ e s')

theorem sg_wrap {α : Type} {m : Sem α} {K : α → Sem Fin} {H : Value → Sem Fin} {gd lv}
    (h : wpAny M (A.over c fs) m (fun a s' => Sg M A Φ c (K a) fs s') (fun x s' => Sg M A Φ c (H x) fs s') s) :
    Sg M A Φ c (m.wrap K H gd lv) fs s := by
  rintro Γ p rfl hΓ
  exact runs_wrap_of_wp (Φ := fun e s' => e.quiet = true ∧ Φ e s') K H gd lv m (h (Γ.over fs) p (hΓ.over fs)) (fun a p' s' h' => h' Γ p' rfl hΓ)
    (fun x p' s' h' => h' Γ p' rfl hΓ)

theorem sg_at {p' : Pos} {k : Unit → Sem Fin} (h : Sg M A Φ c (k ()) fs s) : Sg M A Φ c (.at p' k) fs s :=
  sg_wrap (m := standAt p') (K := k) (H := .raise) (gd := id) (lv := id) (wpAny_standAt h)
theorem sg_point {l : List Value} {k : Unit → Sem Fin} (h : Sg M A Φ c (k ()) fs s) : Sg M A Φ c (.point l k) fs s :=
  sg_wrap (m := point) (K := k) (H := .raise) (gd := id) (lv := fun _ => l) (wpAny_point h)

theorem sg_call {c' : Code} {h g l} {k : Result → Sem Fin} (hc : ∀ p, Sg M A Φ c' (M.den c') (.ret k h g l c p [] :: fs) s) :
    Sg M A Φ c (.call c' h g l k) fs s := by
  rintro Γ p rfl hΓ
  obtain ⟨e, s', hr, he⟩ := hc p (Γ.goto c') p rfl (hΓ.goto c')
  exact ⟨e, s', runs_call_seg hr, he⟩

theorem sg_leaf {k h g l c₁ p₁ kp} (r : Result) (hk : Sg M A Φ c₁ (k r) fs s) : Sg M A Φ c (leafOf r) (.ret k h g l c₁ p₁ kp :: fs) s := by
  rintro Γ p rfl hΓ
  obtain ⟨e, s', hr, he⟩ := hk (Γ.goto c₁) p₁ rfl (hΓ.goto c₁)
  exact ⟨e, s', Runs.pop r hr, he⟩

theorem sg_again {c' : Code} (hq : c'.quiet = true) (hc : Sg M A Φ c' (M.den c') fs s) : Sg M A Φ c (.pure (.again c')) fs s := by
  rintro Γ p rfl hΓ
  obtain ⟨e, s', hr, he⟩ := hc (Γ.goto c') p rfl (hΓ.goto c')
  exact ⟨e, s', Runs.head (c₁ := c') (fun _ _ x => .again hq x) hr, he⟩

theorem sg_end (r : Result) (h : Φ (.ret r) s) : Sg M A Φ c (leafOf r) [] s := by
  rintro Γ p rfl _
  exact ⟨.ret r, s, Runs.leaf r, rfl, h⟩

theorem sg_yield {v g l} {k : Resume → Sem Fin} (hfs : splitAtGen fs = none) (hg : g = false) (hfg : fs.any Frame.guarded = false)
    (h : ∀ p, Φ (.susp v g l k c p fs) s) : Sg M A Φ c (.yield v g l k) fs s := by
  rintro Γ p rfl _
  exact ⟨_, s, Runs.yield' fs hfs, (by simp [End.quiet, hg, hfg]), h p⟩

/-- a generator's state goes on from here -/
def Wk (M : Model) (A : Around) (Φ : End → Shared → Prop) (gs : GenState) (s : Shared) : Prop :=
  match gs with
  | .fresh c => Sg M A Φ c (M.den c) [] s
  | .suspended k _ c _ fs _ => Sg M A Φ c (k (.send .none)) fs s
  | _ => False

theorem wk_resume {E : Value → Shared → Prop} {g : Nat} {gs : GenState} {l : List Value} {α : Type} {k : GenResult → Sem α} {Q : α → Shared → Prop} (hg : s.gens[g]? = some gs)
    (hgo : Wk M A Φ gs (s.setGen g .running))
    (hQ : ∀ e s₁, e.quiet = true → Φ e s₁ → wpAny M A (k e.result) Q E (s₁.setGen g e.genState)) :
    wpAny M A (.resume g (.send .none) l k) Q E s := by
  intro Γ p hΓ
  rw [Sem.wp_resume]
  have hB : ∀ c, (Γ.wake c p).Woken A := fun c => hΓ.wake c p
  cases gs with
  | fresh c =>
    obtain ⟨e₁, s₁, hr, hq, he⟩ := hgo (Γ.wake c p) p rfl (hB c)
    exact ⟨_, _, by unfold Wakes; rw [hg]; exact ⟨e₁, s₁, hr, hq, rfl, rfl⟩, hQ e₁ s₁ hq he Γ p hΓ⟩
  | suspended k₀ l₀ c₀ p₀ fs₀ cl =>
    obtain ⟨e₁, s₁, hr, hq, he⟩ := hgo (Γ.wake c₀ p) p₀ rfl (hB c₀)
    exact ⟨_, _, by unfold Wakes; rw [hg]; exact ⟨e₁, s₁, hr, hq, rfl, rfl⟩, hQ e₁ s₁ hq he Γ p hΓ⟩
  | running => exact hgo.elim
  | finished => exact hgo.elim

theorem sg_execs_nil (h : Sg M A Φ c (K .next) fs s) : Sg M A Φ c ((execs [] env).wrap K H gd lv) fs s := h

theorem sg_execs_cons {st : Stmt} {rest : List Stmt}
    (h : Sg M A Φ c ((exec st env).wrap (fun f => match f with | .next => (execs rest env).wrap K H gd lv | f => K f) H gd lv) fs s) :
    Sg M A Φ c ((execs (st :: rest) env).wrap K H gd lv) fs s := by rw [execs_cons_wrap]; exact h

/-- a statement that does not yield, then the rest -/
theorem sg_stmt {st : Stmt} {rest : List Stmt}
    (h : wpAny M (A.over c fs) (exec st env) (fun f s' => match f with | .next => Sg M A Φ c ((execs rest env).wrap K H gd lv) fs s' | f => Sg M A Φ c (K f) fs s')
      (fun x s' => Sg M A Φ c (H x) fs s') s) : Sg M A Φ c ((execs (st :: rest) env).wrap K H gd lv) fs s := by
  refine sg_execs_cons (sg_wrap (wpAny_mono h (fun f s' hf => ?_) fun _ _ x => x))
  cases f <;> exact hf

theorem sg_If {test : Expr} {body orelse : List Stmt} {pos : Pos}
    (h : wpAny M (A.over c fs) (isTrue test env (eval test env)) (fun b s' => Sg M A Φ c ((execs (if b then body else orelse) env).wrap K H gd lv) fs s')
      (fun x s' => Sg M A Φ c (H x) fs s') s) : Sg M A Φ c ((exec (.If test body orelse pos) env).wrap K H gd lv) fs s := by
  show Sg M A Φ c (.at pos fun _ => ((isTrue test env (eval test env) >>= fun b => if b = true then execs body env else execs orelse env) : Sem Flow).wrap K H gd lv) fs s
  refine sg_at ?_
  rw [Sem.bind_eq_wrap', Sem.wrap_wrap]
  refine sg_wrap (wpAny_mono h (fun b s' h' => ?_) fun _ _ x => x)
  cases b <;> exact h'

theorem sg_Expr_Yield {e : Expr} {ypos pos : Pos} (hfs : splitAtGen fs = none) (hgd : gd false = false) (hfg : fs.any Frame.guarded = false)
    (h : wpAny M (A.over c fs) (eval e env) (fun v s' => ∀ l k p, k (.send .none) = K .next → Φ (.susp v false l k c p fs) s')
      (fun x s' => Sg M A Φ c (H x) fs s') s) (hco : env.scope.isCoroutine = false := by rfl) (hi : interactive env = false := by rfl) :
    Sg M A Φ c ((exec (.Expr (.Yield (some e) ypos) pos) env).wrap K H gd lv) fs s := by
  rw [exec_Expr env _ pos hi rfl]
  show Sg M A Φ c (.at pos fun _ => ((eval e env >>= fun v => (standAt ypos >>= fun _ => yieldOut env v)) >>= fun x =>
    dropValue (.Yield (some e) ypos) pos x).wrap K H gd lv) fs s
  have hy : ∀ v, yieldOut env v = yieldValue v := fun v => by simp only [yieldOut, hco, Bool.false_eq_true, if_false]
  simp only [hy]
  refine sg_at ?_
  rw [Sem.bind_eq_wrap', Sem.bind_eq_wrap', Sem.wrap_wrap, Sem.wrap_wrap]
  refine sg_wrap (wpAny_mono h (fun v s' h' => ?_) fun _ _ x => x)
  refine sg_at (sg_yield hfs (by exact hgd) hfg fun p => ?_)
  show Φ (.susp v (gd false) _ _ c p fs) s'
  rw [hgd]
  exact h' _ _ p rfl

/-- what a For's frame does with what its loop hands back -/
def forBack (env : Env) (K : Flow → Sem Fin) (H : Value → Sem Fin) (gd : Bool → Bool) (lv : List Value → List Value) (r : Result) : Sem Fin :=
  ((match r with | .ok f => (.pure f : Sem Flow) | .error e => .raise e).onRaise fun (x : Value) => do
        if (← field x 1) == Value.none then unsupported "frame.own-activation:exception-without-traceback"
        setFlight x env.frame).wrap K H gd lv

theorem sg_While {test : Expr} {body orelse : List Stmt} {pos : Pos}
    (h : ∀ p, Sg M A Φ (.whileLoop test body orelse env) (M.den (.whileLoop test body orelse env)) (.ret (forBack env K H gd lv) none (gd false) (lv []) c p [] :: fs) s) :
    Sg M A Φ c ((exec (.While test body orelse pos) env).wrap K H gd lv) fs s :=
  sg_at (sg_call h)

theorem sg_For {target iter : Expr} {body orelse : List Stmt} {pos : Pos}
    (h : wpAny M (A.over c fs) (eval iter env) (fun x s₁ => wpAny M (A.over c fs) (pyIter x) (fun it s₂ =>
      ∀ p, Sg M A Φ (.forLoop target it body orelse env) (M.den (.forLoop target it body orelse env)) (.ret (forBack env K H gd lv) none (gd false) (lv []) c p [] :: fs) s₂)
      (fun x s' => Sg M A Φ c (H x) fs s') s₁) (fun x s' => Sg M A Φ c (H x) fs s') s)
    (hs : ∀ x, foldedSetIterable iter env x = pure x := by intro _; rfl) :
    Sg M A Φ c ((exec (.For target iter body orelse pos) env).wrap K H gd lv) fs s := by
  rw [exec_For]
  show Sg M A Φ c (.at pos fun _ => ((eval iter env >>= fun x => (foldedSetIterable iter env x >>= fun x => (standAt iter.pos >>= fun _ => (holding [x] (pyIter x) >>= fun it => runOwn (.forLoop target it body orelse env) env)))) : Sem Flow).wrap K H gd lv) fs s
  refine sg_at ?_
  rw [Sem.bind_eq_wrap', Sem.wrap_wrap]
  refine sg_wrap (wpAny_mono h (fun x s₁ h₁ => ?_) fun _ _ x => x)
  rw [hs x]
  show Sg M A Φ c (.at iter.pos fun _ => ((holding [x] (pyIter x) >>= fun it => runOwn (.forLoop target it body orelse env) env) : Sem Flow).wrap K H gd lv) fs s₁
  refine sg_at ?_
  rw [Sem.bind_eq_wrap', Sem.wrap_wrap]
  refine sg_wrap (wpAny_holding (wpAny_mono h₁ (fun it s₂ h₂ => ?_) fun _ _ x => x))
  exact sg_call h₂
end

section
variable {prog : Program} {w : World} {A : Around} {Φ : End → Shared → Prop} {fs : List Frame} {s : Shared} {env : Env}

/-- an exception leaves a loop's own activation -/
def noteOut (env : Env) (e : Value) : Sem Fin := (do noteFrame e env; theTreesLotGoes e : Sem Unit).wrap (fun _ => .raise e) .raise id id
/-- what a for's turn does behind its body -/
def forK (target : Expr) (it : Value) (body orelse : List Stmt) (env : Env) (f : Flow) : Sem Fin := match f with
  | .next | .cont => .pure (.again (.forLoop target it body orelse env))
  | .brk => .pure (.done .next)
  | .ret v => .pure (.done (.ret v))

theorem sg_forLoop {target : Expr} {it : Value} {body : List Stmt}
    (h : wpAny (model prog w) (A.over (.forLoop target it body [] env) fs) (pyNext it) (fun r s₁ => match r with
        | none => Sg (model prog w) A Φ (.block [] env) (.pure (.done .next)) fs s₁
        | some v => wpAny (model prog w) (A.over (.forLoop target it body [] env) fs) (assign target env v) (fun _ s₂ =>
            Sg (model prog w) A Φ (.forLoop target it body [] env) ((execs body env).wrap (forK target it body [] env) (noteOut env) id id) fs s₂)
            (fun x s' => Sg (model prog w) A Φ (.forLoop target it body [] env) (noteOut env x) fs s') s₁)
      (fun x s' => Sg (model prog w) A Φ (.forLoop target it body [] env) (noteOut env x) fs s') s)
    (ht : ∀ v, letOwnedTupleGo target it v = pure () := by intro _; rfl) :
    Sg (model prog w) A Φ (.forLoop target it body [] env) ((model prog w).den (.forLoop target it body [] env)) fs s := by
  show Sg _ A Φ _ ((forTurn target it body [] env).onRaise (fun x => do noteFrame x env; theTreesLotGoes x)) fs s
  have hH : ∀ e, ((do noteFrame e env; theTreesLotGoes e : Sem Unit).bind fun _ => (.raise e : Sem Fin)) = noteOut env e := fun e => Sem.bind_eq_wrap _ _
  rw [Sem.onRaise_eq_wrap, Sem.wrap_congr _ (K' := .pure) (H' := noteOut env) _ _ (fun _ => rfl) hH]
  unfold forTurn
  show Sg _ A Φ _ (.at target.pos fun _ => (((pyNext it).onRaise (fun _ => standAt { target.pos with line := 0 }) >>= fun r => _) : Sem Fin).wrap .pure (noteOut env) id id) fs s
  refine sg_at ?_
  rw [Sem.bind_eq_wrap', Sem.wrap_wrap]
  refine sg_wrap (wpAny_onRaise (wpAny_mono h (fun r s₁ h₁ => ?_) fun x s' hx => wpAny_standAt hx))
  cases r with
  | none =>
    refine sg_again rfl ?_
    exact h₁
  | some v =>
    show Sg _ A Φ _ (Sem.wrap _ _ _ _ (letOwnedTupleGo target it v >>= fun _ => (assign target env v >>= fun _ => (execs body env >>= fun f => _)))) fs s₁
    rw [ht v]
    show Sg _ A Φ _ (Sem.wrap _ _ _ _ (assign target env v >>= fun _ => (execs body env >>= fun f => _))) fs s₁
    rw [Sem.bind_eq_wrap', Sem.wrap_wrap]
    refine sg_wrap (wpAny_mono h₁ (fun _ s₂ h₂ => ?_) fun _ _ x => x)
    rw [Sem.bind_eq_wrap', Sem.wrap_wrap]
    refine Eq.mpr (congrArg (fun t => Sg (model prog w) A Φ (.forLoop target it body [] env) t fs s₂) ?_) h₂
    exact Sem.wrap_congr _ _ _ (fun f => by cases f <;> rfl) (fun _ => rfl)

def whileK (test : Expr) (body orelse : List Stmt) (env : Env) (f : Flow) : Sem Fin := match f with
  | .next | .cont => .pure (.again (.whileLoop test body orelse env))
  | .brk => .pure (.done .next)
  | .ret v => .pure (.done (.ret v))

theorem sg_whileLoop {test : Expr} {body orelse : List Stmt}
    (h : wpAny (model prog w) (A.over (.whileLoop test body orelse env) fs) (isTrue test env (eval test env)) (fun b s' => b = true ∧
          Sg (model prog w) A Φ (.whileLoop test body orelse env) ((execs body env).wrap (whileK test body orelse env) (noteOut env) id id) fs s')
      (fun x s' => Sg (model prog w) A Φ (.whileLoop test body orelse env) (noteOut env x) fs s') s) :
    Sg (model prog w) A Φ (.whileLoop test body orelse env) ((model prog w).den (.whileLoop test body orelse env)) fs s := by
  show Sg _ A Φ _ ((whileTurn test body orelse env).onRaise (fun x => do noteFrame x env; theTreesLotGoes x)) fs s
  have hH : ∀ e, ((do noteFrame e env; theTreesLotGoes e : Sem Unit).bind fun _ => (.raise e : Sem Fin)) = noteOut env e := fun e => Sem.bind_eq_wrap _ _
  rw [Sem.onRaise_eq_wrap, Sem.wrap_congr _ (K' := .pure) (H' := noteOut env) _ _ (fun _ => rfl) hH]
  unfold whileTurn
  rw [Sem.bind_eq_wrap', Sem.wrap_wrap]
  refine sg_wrap (wpAny_mono h (fun b s' hb => ?_) fun x s' hx => hx)
  obtain ⟨rfl, hb⟩ := hb
  show Sg _ A Φ _ (Sem.wrap _ _ _ _ (if true = true then _ else _)) fs s'
  rw [if_pos rfl, Sem.bind_eq_wrap', Sem.wrap_wrap]
  refine Eq.mpr (congrArg (fun t => Sg (model prog w) A Φ (.whileLoop test body orelse env) t fs s') ?_) hb
  exact Sem.wrap_congr _ _ _ (fun f => by cases f <;> rfl) (fun _ => rfl)

def funcK (f : Flow) : Sem Fin := .pure (.done (.ret (match f with | .ret v => v | _ => .none)))
def funcH (env : Env) (e : Value) : Sem Fin := (leaving env e).wrap (fun _ => .raise e) .raise id id

theorem sg_func {body : List Stmt} (h : Sg (model prog w) A Φ (.func body env) ((execs body env).wrap funcK (funcH env) id id) fs s) :
    Sg (model prog w) A Φ (.func body env) ((model prog w).den (.func body env)) fs s := by
  show Sg _ A Φ _ (.point [] fun _ => ((execs body env).onRaise (leaving env)) >>= _) fs s
  refine sg_point ?_
  rw [Sem.onRaise_eq_wrap, Sem.bind_eq_wrap', Sem.wrap_wrap]
  rw [Sem.wrap_congr (execs body env) _ _ (K' := funcK) (H' := funcH env) (fun f => by cases f <;> rfl)
    (fun e => by rw [Sem.bind_eq_wrap, Sem.wrap_wrap]; rfl)]
  exact h
end
end Mine

namespace Mine

/-! ## the text's parts -/
def gBody : List Stmt := match PySem.Challenge.pw_ko0101_01.main.body with
  | [_, _, .FunctionDef _ _ b _ _ _ _ _ _ _, _, _, _] => b
  | _ => []
def gScope : Scope := match PySem.Challenge.pw_ko0101_01.main.body with
  | [_, _, .FunctionDef _ _ _ _ _ _ sc _ _ _, _, _, _] => sc
  | _ => { kind := .function, names := [], isGenerator := false, isCoroutine := false, more := [] }
def gTgt : Expr := match gBody with
  | [_, .For t _ _ _ _] => t
  | _ => .Tuple [] 0 default
def gForBody : List Stmt := match gBody with
  | [_, .For _ _ b _ _] => b
  | _ => []
def gLast : List Stmt := gForBody.drop 3
def gWhTest : Expr := match gForBody with
  | [_, .If _ [_, .While t _ _ _] _ _, _, _] => t
  | _ => .Tuple [] 0 default
def gWhBody : List Stmt := match gForBody with
  | [_, .If _ [_, .While _ b _ _] _ _, _, _] => b
  | _ => []
abbrev gName : Str := Str.ofString "_grouping_intervals"
abbrev gEnv (C a : Addr) (cd : Value) : Env := envOf gName gScope C a cd
abbrev forCode (it : Value) (env : Env) : Code := .forLoop gTgt it gForBody [] env
abbrev whCode (env : Env) : Code := .whileLoop gWhTest gWhBody [] env


/-! ## around a generator's code -/
structure AOk (A : Around) (outer : List Env) (n : Nat) : Prop where
  handled : A.handled = none
  frames : A.frames = some outer
  depth : A.depth + n < recursionLimit
  units : A.units + 20 * n < cLine

theorem AOk.in1 {A : Around} {outer : List Env} {n : Nat} (h : AOk A outer (n + 1)) : AOk A.in1 outer n :=
  ⟨h.handled, h.frames, by have := h.depth; show A.depth + n < _; omega, by have := h.units; show A.units + 1 + 20 * n < _; omega⟩
theorem AOk.less {A : Around} {outer : List Env} {n m : Nat} (h : AOk A outer n) (hm : m ≤ n) : AOk A outer m :=
  ⟨h.handled, h.frames, by have := h.depth; omega, by have := h.units; omega⟩

theorem AOk.overFunc {A : Around} {outer : List Env} {n : Nat} {env : Env} (h : AOk A outer (n + 1)) : AOk (A.over (.func gBody env) []) (env :: outer) n := by
  obtain ⟨h1, h2, h3, h4⟩ := h
  refine ⟨h1, ?_, ?_, ?_⟩
  · show pushEnvs [env] (pushEnvs [] A.frames) = _
    rw [h2]; rfl
  · show A.depth + frameCount [] + (Code.func gBody env).weight + n < _
    have e1 : frameCount [] = 0 := rfl
    have e2 : (Code.func gBody env).weight = 1 := rfl
    omega
  · show A.units + unitsOf [] + (Code.func gBody env).cUnits + 20 * n < _
    have e1 : unitsOf [] = 0 := rfl
    have e2 : (Code.func gBody env).cUnits = 3 := rfl
    omega

theorem AOk.overFor {A : Around} {outer : List Env} {n : Nat} {env : Env} {it : Value} {k : Result → Sem Fin} {g : Bool} {l : List Value} {p : Pos} (h : AOk A outer (n + 1)) :
    AOk (A.over (forCode it env) [.ret k none g l (.func gBody env) p []]) (env :: outer) n := by
  obtain ⟨h1, h2, h3, h4⟩ := h
  refine ⟨h1, ?_, ?_, ?_⟩
  · show pushEnvs [] (pushEnvs [env] A.frames) = _
    rw [h2]; rfl
  · show A.depth + frameCount [(.func gBody env, p)] + (forCode it env).weight + n < _
    have e1 : frameCount [(Code.func gBody env, p)] = 1 := rfl
    have e2 : (forCode it env).weight = 0 := rfl
    omega
  · show A.units + unitsOf [(.func gBody env, p)] + (forCode it env).cUnits + 20 * n < _
    have e1 : unitsOf [(Code.func gBody env, p)] = 3 := rfl
    have e2 : (forCode it env).cUnits = 0 := rfl
    omega

/-! ## exceptions on their way -/
section
variable {M : Model} {A : Around} {E : Value → Shared → Prop} {s : Shared}

theorem note_made {base h : Heap} {env : Env} {outer : List Env} {L e : Addr} {cls : Value} {args : List Value} {Q : Unit → Shared → Prop}
    (hfr : A.frames = some (env :: outer)) (hf : env.frame = some L) (hkb : base.StaysIn h) (hl : h.FunFrames base (env :: outer)) (hx : Heap.MadeExcOf h s.heap e cls args)
    (hQ : ∀ h' t, Heap.HeldW base (env :: outer) e cls (.ref t) L h' → h'.TupAt t args → base.get? t = none → s.heap.UpToSlots h' → Q () { s with heap := h' }) : wpAny M A (noteFrame (.ref e) env) Q E s := by
  obtain ⟨t, he, htn, ht⟩ := hx.there
  have fresh : ∀ b, h.get? b = none → base.get? b = none := fun b hb => by
    cases hq : base.get? b with
    | none => rfl
    | some o' => have := hkb b o' hq; rw [hb] at this; cases this
  unfold noteFrame
  simp only [hf]
  refine wpAny_bind (wpAny_field (x := .none) he rfl rfl ?_)
  rw [if_neg (by decide)]
  refine wpAny_entryW (a0 := .ref t) hfr (hl.of_keeps fun b o hb _ => ⟨o, hx.keeps b o hb, rfl⟩) hf he (fun b o hb => hx.keeps b o (hkb b o hb)) (fresh e hx.new) rfl (by show 1 < 6; decide) rfl fun h' hN => ?_
  obtain ⟨k1, k2, k3, k4⟩ := hN
  exact hQ h' t ⟨k1, fresh e hx.new, k2, k3⟩ (Heap.TupAt.of_slots ⟨_, _, ht, rfl, rfl⟩ k4) (fresh t htn) k4

theorem cameBack_held {base : Heap} {env : Env} {l : List Env} {L e : Addr} {cls a0 : Value} {Q : Unit → Shared → Prop} (hf : env.frame = some L)
    (hh : Heap.HeldW base l e cls a0 L s.heap)
    (hQ : ∀ h', Heap.HeldW base l e cls a0 L h' → s.heap.UpToSlots h' → Q () { s with heap := h' }) :
    wpAny M A (do
        if (← field (.ref e) 1) == Value.none then unsupported "frame.own-activation:exception-without-traceback"
        setFlight (.ref e) env.frame) Q E s := by
  obtain ⟨f1, f2, f3, oe, vs, T, oT, ts, he, hcls, hd, h1, hnT, hTe, hT, hdT, h3⟩ := hh
  have hsz3 : 3 < ts.size := (Array.getElem?_eq_some_iff.mp h3).1
  have other : ∀ b, b ≠ T → (s.heap.update T (Obj.mapFields (·.setIfInBounds 3 (env.frame.elim Value.none fun f => rawInt f)))).get? b = s.heap.get? b :=
    fun b hb => Heap.get?_update_other _ _ (Ne.symm hb)
  have noRecord : ∀ b o, s.heap.get? b = some o → (∀ vs, o.data ≠ .fields vs) → b ≠ T := fun b o hb hnf q => by
    rw [q, hT] at hb; injection hb with hb; subst hb; exact hnf ts hdT
  refine wpAny_bind (wpAny_field he hd h1 ?_)
  rw [if_neg (show ¬ ((Value.ref T == Value.none) = true) by simp)]
  unfold setFlight
  refine wpAny_bind (wpAny_field he hd h1 ?_)
  rw [if_pos (show (Value.ref T != Value.none) = true from by simp)]
  refine wpAny_setField hT hdT hsz3 (hQ _ ⟨fun b o hbo => (other b fun q => by rw [q, hnT] at hbo; cases hbo).trans (f1 b o hbo), f2,
    f3.of_keeps fun b o hb hnf => ⟨o, (other b (noRecord b o hb hnf)).trans hb, rfl⟩, ?_⟩ fun b o hb hnf => ⟨o.slots, (other b (noRecord b o hb hnf)).trans hb⟩)
  exact ⟨oe, vs, T, _, _, (other e (Ne.symm hTe)).trans he, hcls, hd, h1, hnT, hTe, Heap.get?_update_self _ hT (Obj.isFreed_of_fields (Obj.data_mapFields hdT _)), Obj.data_mapFields hdT _, by simp [hsz3, hf]⟩

theorem leaves_held {base : Heap} {env : Env} {outer : List Env} {L e : Addr} {cls a0 : Value} {Q : Unit → Shared → Prop} (hf : env.frame = some L)
    (hh : Heap.HeldW base (env :: outer) e cls a0 L s.heap) (hQ : ∀ h', Heap.FlyingW base outer e cls a0 h' → s.heap.UpToSlots h' → Q () { s with heap := h' }) : wpAny M A (leaving env (.ref e)) Q E s := by
  unfold leaving
  refine wpAny_bind (wpAny_noteFrame_againW hf hh.2.2.2 ?_)
  refine wpAny_landsW hh fun h' hfl hu => ?_
  obtain ⟨k1, k2, ⟨_, _, k3⟩, k4⟩ := hfl
  exact hQ h' ⟨k1, k2, k3, k4⟩ hu
end

/-! ## the function's own frame below its loop -/
section
variable {prog : Program} {w : World}

structure EndsWell (prog : Program) (w : World) (env : Env) (kk : Result → Sem Fin) : Prop where
  next : ∀ A Φ s, Φ (.ret (.ok (.ret .none))) s → Sg (model prog w) A Φ (.func gBody env) (kk (.ok .next)) [] s
  ret : ∀ A Φ s v, Φ (.ret (.ok (.ret v))) s → Sg (model prog w) A Φ (.func gBody env) (kk (.ok (.ret v))) [] s
  err : ∀ A Φ s e, wpAny (model prog w) (A.over (.func gBody env) []) (do
        if (← field e 1) == Value.none then unsupported "frame.own-activation:exception-without-traceback"
        setFlight e env.frame) (fun _ s' => wpAny (model prog w) (A.over (.func gBody env) []) (leaving env e) (fun _ s'' => Φ (.ret (.error e)) s'') (fun _ _ => False) s') (fun _ _ => False) s →
    Sg (model prog w) A Φ (.func gBody env) (kk (.error e)) [] s

theorem EndsWell.mk' {env : Env} : EndsWell prog w env (forBack env (fun f => match f with | .next => (execs [] env).wrap funcK (funcH env) id id | f => funcK f) (funcH env) id id) where
  next := fun A Φ s h => sg_end (.ok (.ret .none)) h
  ret := fun A Φ s v h => sg_end (.ok (.ret v)) h
  err := fun A Φ s e h => by
    show Sg _ A Φ _ (Sem.wrap _ _ _ _ (Sem.bind _ fun _ => .raise e)) [] s
    rw [Sem.bind_eq_wrap, Sem.wrap_wrap]
    refine sg_wrap (wpAny_mono h (fun _ s' h' => ?_) fun _ _ x => x.elim)
    show Sg _ A Φ _ (Sem.wrap _ _ _ _ (leaving env e)) [] s'
    refine sg_wrap (wpAny_mono h' (fun _ s'' h'' => ?_) fun _ _ x => x.elim)
    exact sg_end (.error e) h''

/-- the generator sleeps behind «yield interval» -/
def SusFor (prog : Program) (w : World) (env : Env) (it : Value) (gs : GenState) : Prop :=
  ∃ k l p kk l' p', gs = .suspended k l (forCode it env) p [.ret kk none false l' (.func gBody env) p' []] false ∧ EndsWell prog w env kk ∧
    ∀ A Φ s fs, Sg (model prog w) A Φ (forCode it env) ((execs gLast env).wrap (forK gTgt it gForBody [] env) (noteOut env) id id) fs s → Sg (model prog w) A Φ (forCode it env) (k (.send .none)) fs s

/-- the generator sleeps behind «yield last_interval» -/
def SusWh (prog : Program) (w : World) (env : Env) (gs : GenState) : Prop :=
  ∃ k l p fs, gs = .suspended k l (whCode env) p fs false ∧ fs.any Frame.guarded = false ∧ splitAtGen fs = none ∧
    ∀ A Φ s, Sg (model prog w) A Φ (whCode env) ((model prog w).den (whCode env)) fs s → Sg (model prog w) A Φ (whCode env) (k (.send .none)) fs s
end
end Mine

namespace Mine
section
variable {prog : Program} {w : World} {A : Around} {Φ : End → Shared → Prop} {s : Shared} {h₀ : Heap} {C a : Addr} {cd : Value} {outer : List Env}
  {m mg mb : Str → Option Value} {it lastv : Value} {n : Int} {t u : Tok} {kk : Result → Sem Fin} {l' : List Value} {p' : Pos}

/-- what is known of the text's globals -/
structure Glo (h : Heap) (mg mb : Str → Option Value) : Prop where
  g : h.Ns mainGlobals mg
  b : h.Ns builtinsNs mb
  cm : ∃ u, mg (Str.ofString "CHAR_MAX") = some (.int 127 u)
  ve : mg (Str.ofString "ValueError") = none
  ve' : mb (Str.ofString "ValueError") = some (.type "ValueError")

/-- an exception that a generator let through, over the frames outer -/
structure Out (s₀ : Heap) (X : List Addr) (outer : List Env) (e : Addr) (h' : Heap) : Prop where
  fly : ∃ B t tk, (∀ b o, s₀.get? b = some o → b ∉ X → b ∉ outer.filterMap (·.frame) → B.get? b = some o) ∧
    Heap.FlyingW B outer e (.type "ValueError") (.ref t) h' ∧ B.get? t = none ∧ h'.TupAt t [.str (Str.ofString "invalid grouping") tk]
  slots : ∀ b o, s₀.get? b = some o → b ∉ X → (∀ vs, o.data ≠ .fields vs) → ∃ sl, h'.get? b = some { o with slots := sl }

theorem out_tail {env : Env} {B : Heap} {e : Addr} {cls a0 : Value} (hkk : EndsWell prog w env kk) (hf : env.frame = some C) (hheld : Heap.HeldW B (env :: outer) e cls a0 C s.heap)
    (hΦ : ∀ h', Heap.FlyingW B outer e cls a0 h' → s.heap.UpToSlots h' → Φ (.ret (.error (.ref e))) { s with heap := h' }) :
    Sg (model prog w) A Φ (.func gBody env) (kk (.error (.ref e))) [] s :=
  hkk.err _ _ _ _ (cameBack_held hf hheld fun h' hh hu => leaves_held hf hh fun h'' hfl hu' => hΦ h'' hfl (hu.trans hu'))

theorem noteOut_tail {env : Env} {e : Value} (hq : wpAny (model prog w) (A.over (forCode it env) [.ret kk none false l' (.func gBody env) p' []]) (noteFrame e env)
      (fun _ s' => Sg (model prog w) A Φ (.func gBody env) (kk (.error e)) [] s') (fun _ _ => False) s) :
    Sg (model prog w) A Φ (forCode it env) (noteOut env e) [.ret kk none false l' (.func gBody env) p' []] s := by
  refine sg_wrap (wpAny_bind (wpAny_mono hq (fun _ s' h => wpAny_theTreesLotGoes ?_) fun _ _ x => x.elim))
  exact sg_leaf (.error e) h

set_option maxRecDepth 100000 in
set_option maxHeartbeats 4000000 in
theorem sg_body (G : Glo h₀ mg mb) (hA : AOk A outer 3) (F : Fr h₀ C s.heap m) (hi : m (Str.ofString "interval") = some (.int n t)) (hl : m (Str.ofString "last_interval") = some lastv)
    (hff : ∀ base, (∀ b, b ∈ outer.filterMap (·.frame) → base.get? b = none) → s.heap.FunFrames base outer)
    (hkk : EndsWell prog w (gEnv C a cd) kk)
    (h127 : n = 127 → ∀ tk, Φ (.ret (.ok (.ret .none))) { s with toks := tk })
    (hwh : n = 0 → lastv ≠ .none → ∀ tk e, e.result = .yielded lastv → SusWh prog w (gEnv C a cd) e.genState → Φ e { s with toks := tk })
    (hv : n ≠ 127 → n ≠ 0 → ∀ tk e, e.result = .yielded (.int n t) → SusFor prog w (gEnv C a cd) it e.genState → Φ e { s with toks := tk })
    (hr : n = 0 → lastv = .none → ∀ e tk h', Out s.heap [C] outer e h' → Φ (.ret (.error (.ref e))) { s with heap := h', toks := tk }) :
    Sg (model prog w) A Φ (forCode it (gEnv C a cd)) ((execs gForBody (gEnv C a cd)).wrap (forK gTgt it gForBody [] (gEnv C a cd)) (noteOut (gEnv C a cd)) id id)
      [.ret kk none false l' (.func gBody (gEnv C a cd)) p' []] s := by
  obtain ⟨u, hcm⟩ := G.cm
  refine sg_stmt (wpAny_If (wpAny_isTrue_Compare1 (ld F hi (ld_global_at F G.g hcm (eq_int (wpAny_truthy_bool (split_bool (fun h => ?_) fun h => ?_))))) (by rfl)))
  · have hn : n = 127 := by simpa using h
    refine wpAny_execs_cons (wpAny_Return_none ?_)
    exact sg_leaf (.ok (.ret .none)) (hkk.ret _ _ _ _ (h127 hn s.toks))
  have hn : n ≠ 127 := by simpa using h
  refine wpAny_execs_nil ?_
  show Sg _ _ _ _ _ _ _
  refine sg_execs_cons (sg_If (wpAny_isTrue_Compare1 (ld F hi (wpAny_Constant_int (eq_int (wpAny_truthy_bool ?_)))) (by rfl)))
  cases h0 : (n == 0) with
  | false =>
    have hn0 : n ≠ 0 := by simpa using h0
    refine sg_execs_nil ?_
    show Sg _ _ _ _ _ _ _
    refine sg_execs_cons (sg_Expr_Yield rfl rfl rfl (ld F hi fun l k p hk => ?_))
    exact hv hn hn0 _ _ rfl ⟨k, l, p, kk, l', p', rfl, hkk, fun A Φ s fs h => by rw [hk]; exact h⟩
  | true =>
    have hn0 : n = 0 := by simpa using h0
    refine sg_stmt (wpAny_If (wpAny_isTrue_Compare1 (ld (s := { s with toks := s.toks + 1 }) F hl (wpAny_pure (is_none_gen (wpAny_truthy_bool ?_)))) (by rfl)))
    cases hln : (lastv == Value.none) with
    | true =>
      have hlast : lastv = .none := by simpa using hln
      refine wpAny_execs_cons (Raise_madeB PySem.F.excCall_ValueError PySem.F.excRaise_ValueError (hA.overFor).handled
        (ld_builtin_at (s := { s with toks := s.toks + 1 }) F G.g G.ve G.b G.ve' ⟨rfl, spliced_more (wpAny_Constant_str (spliced_none ⟨by show 1 ≤ sizeLine; rw [sizeLine_eq]; omega, fun h' e hm => ?_⟩))⟩))
      have st : Heap.StaysIn (hideAll s.heap ((gEnv C a cd :: outer).filterMap (·.frame))) s.heap := fun b o q => of_hideAll _ q
      have hfr : s.heap.FunFrames (hideAll s.heap ((gEnv C a cd :: outer).filterMap (·.frame))) (gEnv C a cd :: outer) :=
        Heap.FunFrames.cons (L := C) (by show ScopeKind.function ≠ .module; decide) rfl F.ns (hideAll_none _ (.head _)) (hff _ fun b hb => hideAll_none _ (.tail _ hb))
      refine noteOut_tail (note_made (hA.overFor).frames rfl st hfr ⟨hm.keeps, hm.new, hm.there⟩ fun h₁ t₁ hheld htup htn hu => ?_)
      refine out_tail hkk rfl hheld fun h₂ hfly hu₂ => hr hn0 hlast e _ h₂ ⟨⟨_, t₁, _, ?_, hfly, htn, htup.of_slots hu₂⟩, ?_⟩
      · intro b o hb hX hb'
        exact hideAll_get _ hb fun q => (List.mem_cons.mp q).elim (fun q => hX (by rw [q]; exact .head _)) hb'
      · intro b o hb hX hn
        exact (Heap.UpToSlots.of_keeps hm.keeps |>.trans (hu.trans hu₂)) b o hb hn
    | false =>
      have hlast : lastv ≠ .none := by simpa using hln
      refine wpAny_execs_nil ?_
      show Sg _ _ _ _ _ _ _
      refine sg_execs_cons (sg_While fun p₁ => sg_whileLoop ?_)
      refine isTrue_plain (wpAny_pure (wpAny_truthy_bool ⟨rfl, ?_⟩))
      refine sg_execs_cons (sg_Expr_Yield rfl rfl rfl (ld (s := { s with toks := s.toks + 1 }) F hl fun l k p hk => ?_))
      exact hwh hn0 hlast _ _ rfl ⟨k, l, p, _, rfl, rfl, rfl, fun A Φ s h => by rw [hk]; exact sg_again rfl h⟩
end
end Mine

namespace Mine
section
variable {prog : Program} {w : World} {A : Around} {E : Value → Shared → Prop} {s : Shared} {outer : List Env} {a : Addr} {g : Nat} {Q : Option Value → Shared → Prop}

/-- what next() makes of a generator's stop -/
def GenPost (a : Addr) (g : Nat) (Q : Option Value → Shared → Prop) (E : Value → Shared → Prop) (e : End) (s₁ : Shared) : Prop := match e with
  | .susp v gd l k c p fs => (End.susp v gd l k c p fs).genState.bare = true → Q (some v) (s₁.setGen g (End.susp v gd l k c p fs).genState)
  | .ret (.ok f) => f = .ret .none ∧ ∀ h', (∀ b o, s₁.heap.get? b = some o → h'.get? b = some o) → Q none { s₁.setGen g .finished with heap := h' }
  | .ret (.error x) => ∃ b ob, x = .ref b ∧ s₁.heap.get? b = some ob ∧ ob.cls = .type "ValueError" ∧ s₁.heap.IsGen a g ∧ E x (s₁.setGen g .finished)

theorem notStop : isSubtype (.type "ValueError") (.type "StopIteration") = pure false := by rw [isSubtype_type]; kernel_rfl

theorem gen_next {n : Nat} {gs : GenState} (hA : AOk A outer (n + 1)) (hl : s.heap.NoLimit) (hg : s.heap.IsGen a g) (hgs : s.gens[g]? = some gs)
    (hgo : Wk (model prog w) A.in1 (GenPost a g Q E) gs (s.setGen g .running)) : wpAny (model prog w) A (pyNext (.ref a)) Q E s := by
  unfold pyNext
  refine wpAny_bind (wpAny_attempt (wpAny_callSpecial?_slot (name := Str.ofString "__next__") hg.typeIs slot_gen_next
    (wpAny_call_entry slot_gen_next hg.typeIs entry_gen_next ?_ (args_gen_next _))))
  show wpAny _ A.in1 (Builtin.Generator.genWake (.ref a) (.send .none)) _ _ s
  unfold Builtin.Generator.genWake
  refine wpAny_bind (wpAny_holding (wpAny_genNumber hg (wpAny_bind (wpAny_genState hgs ?_))))
  have hroom : A.in1.depth < recursionLimit := by have := hA.depth; show A.depth < _; omega
  cases gs with
  | running => exact hgo.elim
  | finished => exact hgo.elim
  | _ =>
    refine wpAny_bind (wpAny_roomToWake hl hroom ?_)
    show wpAny _ A.in1 (.resume g (.send .none) [] _) _ _ s
    refine wk_resume hgs hgo (fun e s₁ hq he => ?_)
    cases e with
    | susp v gd l k c p fs =>
      exact wpAny_pure ⟨v, rfl, wpAny_pure (he (End.bare_of_quiet hq))⟩
    | ret r =>
      cases r with
      | ok f =>
        obtain ⟨rfl, he⟩ := he
        show wpAny _ A.in1 (newExc (.type "StopIteration") [] >>= _) _ _ _
        refine wpAny_bind ?_
        simp only [newExc, newTuple]
        refine wpAny_bind (wpAny_newObj_type ?_ (by size_fits))
        refine wpAny_bind (m := firstArgMember _ _) (wpAny_of_eq (a := Value.none) (by first | rfl | (simp only [firstArgMember]; rfl)) ?_)
        refine wpAny_newObj_type ?_ (by size_fits)
        simp only [raiseNew]
        refine wpAny_bind (wpAny_bind (wpAny_handled ?_))
        rw [show A.in1.handled = none from hA.handled]
        refine wpAny_throw ?_
        refine wpAny_bind (wpAny_isInstance (T := "StopIteration") (b := true) ⟨_, Heap.get?_push_size _ rfl, rfl⟩ isSubtype_stop ?_)
        exact wpAny_pure (he _ fun b o hb => Heap.get?_push_of_some _ (Heap.get?_push_of_some _ hb))
      | error x =>
        obtain ⟨b, ob, rfl, hb, hc, hga, hE⟩ := he
        show wpAny _ A.in1 (Builtin.Generator.genLeft (.ref a) (.ref b)) _ _ _
        unfold Builtin.Generator.genLeft
        obtain ⟨oa, nm, qn, hoa, hca, hda, hsa⟩ := hga
        have hT : (s₁.setGen g (End.ret (Except.error (Value.ref b))).genState).TypeIs (.ref b) "ValueError" := ⟨ob, hb, hc⟩
        refine wpAny_bind (wpAny_bind (wpAny_load (s := s₁.setGen g (End.ret (Except.error (Value.ref b))).genState) hoa (wpAny_pure ?_)))
        rw [hda]
        refine wpAny_bind (wpAny_isInstance hT notStop ?_)
        simp only [Bool.and_false, Bool.false_eq_true, if_false]
        unfold Builtin.Generator.genEscaped
        refine wpAny_bind (wpAny_isInstance hT notStop ?_)
        simp only [Bool.not_false, if_true]
        refine wpAny_throw ?_
        refine wpAny_bind (wpAny_isInstance hT notStop ?_)
        simp only [Bool.false_eq_true, if_false]
        exact wpAny_throw hE

/-- next() of one that has ended -/
theorem gen_next_done {n : Nat} (hA : AOk A outer (n + 1)) (hg : s.heap.IsGen a g) (hgs : s.gens[g]? = some .finished)
    (hQ : ∀ h', (∀ b o, s.heap.get? b = some o → h'.get? b = some o) → Q none { s with heap := h' }) : wpAny (model prog w) A (pyNext (.ref a)) Q E s := by
  unfold pyNext
  refine wpAny_bind (wpAny_attempt (wpAny_callSpecial?_slot (name := Str.ofString "__next__") hg.typeIs slot_gen_next
    (wpAny_call_entry slot_gen_next hg.typeIs entry_gen_next ?_ (args_gen_next _))))
  show wpAny _ A.in1 (Builtin.Generator.genWake (.ref a) (.send .none)) _ _ s
  unfold Builtin.Generator.genWake
  refine wpAny_bind (wpAny_holding (wpAny_genNumber hg (wpAny_bind (wpAny_genState hgs ?_))))
  show wpAny _ A.in1 (.resume g (.send .none) [] _) _ _ s
  intro Γ p hΓ
  rw [Sem.wp_resume]
  refine ⟨.finished, s, by unfold Wakes; rw [hgs]; exact ⟨rfl, rfl⟩, ?_⟩
  revert Γ p hΓ
  show wpAny _ A.in1 (newExc (.type "StopIteration") [] >>= _) _ _ _
  refine wpAny_bind ?_
  simp only [newExc, newTuple]
  refine wpAny_bind (wpAny_newObj_type ?_ (by size_fits))
  refine wpAny_bind (m := firstArgMember _ _) (wpAny_of_eq (a := Value.none) (by first | rfl | (simp only [firstArgMember]; rfl)) ?_)
  refine wpAny_newObj_type ?_ (by size_fits)
  simp only [raiseNew]
  refine wpAny_bind (wpAny_handled ?_)
  rw [show A.in1.handled = none from hA.handled]
  refine wpAny_bind (wpAny_pure (wpAny_throw ?_))
  refine wpAny_bind (wpAny_isInstance (T := "StopIteration") (b := true) ⟨_, Heap.get?_push_size _ rfl, rfl⟩ isSubtype_stop ?_)
  exact wpAny_pure (hQ _ fun b o hb => Heap.get?_push_of_some _ (Heap.get?_push_of_some _ hb))
end
end Mine

namespace Mine
section
variable {prog : Program} {w : World} {A : Around} {Φ : End → Shared → Prop} {s : Shared} {h₀ : Heap} {C a aF : Addr} {g : Nat} {cd : Value} {outer : List Env}
  {m mg mb : Str → Option Value} {it lastv : Value} {kk : Result → Sem Fin} {l' : List Value} {p' : Pos}

/-- the frames below are frames still -/
def FramesOn (outer : List Env) (h : Heap) : Prop := ∀ base : Heap, (∀ b, b ∈ outer.filterMap (·.frame) → base.get? b = none) → h.FunFrames base outer

/-- what a turn asks of its end, by what the source handed on -/
def TurnR (prog : Program) (w : World) (h₀ : Heap) (C : Addr) (outer : List Env) (env : Env) (it lastv : Value) (Φ : End → Shared → Prop) (r : Option Value) (s₁ : Shared) : Prop := match r with
  | none => Φ (.ret (.ok (.ret .none))) s₁
  | some v => ∃ n t m', v = .int n t ∧ Fr h₀ C s₁.heap m' ∧ m' (Str.ofString "last_interval") = some lastv ∧ FramesOn outer s₁.heap ∧ C ∉ outer.filterMap (·.frame) ∧
      (n = 127 → ∀ h' tk, Heap.SameBut C s₁.heap h' → Φ (.ret (.ok (.ret .none))) { s₁ with heap := h', toks := tk }) ∧
      (n = 0 → lastv ≠ .none → ∀ h' tk e, Heap.SameBut C s₁.heap h' → (∃ m₂, h'.Ns C m₂ ∧ m₂ (Str.ofString "last_interval") = some lastv) → e.result = .yielded lastv → SusWh prog w env e.genState →
        Φ e { s₁ with heap := h', toks := tk }) ∧
      (n ≠ 127 → n ≠ 0 → ∀ h' tk e, Heap.SameBut C s₁.heap h' → (∃ m₂, h'.Ns C m₂ ∧ m₂ (Str.ofString "interval") = some (.int n t)) → e.result = .yielded (.int n t) → SusFor prog w env it e.genState →
        Φ e { s₁ with heap := h', toks := tk }) ∧
      (n = 0 → lastv = .none → ∀ h' tk e h'', Heap.SameBut C s₁.heap h' → Out h' [C] outer e h'' → Φ (.ret (.error (.ref e))) { s₁ with heap := h'', toks := tk })

def TurnE (outer : List Env) (env : Env) (Φ : End → Shared → Prop) (x : Value) (s₁ : Shared) : Prop :=
  ∃ e B cls a0, x = .ref e ∧ Heap.FlyingW B (env :: outer) e cls a0 s₁.heap ∧ ∀ h', Heap.FlyingW B outer e cls a0 h' → s₁.heap.UpToSlots h' → Φ (.ret (.error (.ref e))) { s₁ with heap := h' }

theorem FramesOn.sameBut {h h' : Heap} (x : FramesOn outer h) (hs : Heap.SameBut C h h') (hC : C ∉ outer.filterMap (·.frame)) : FramesOn outer h' := by
  intro base hb
  have hx := x base hb
  clear x hb
  induction outer with
  | nil => trivial
  | cons env rest ih =>
    obtain ⟨hk, ⟨L, o, hf, hn, ho, hd⟩, hr⟩ := hx
    rw [List.filterMap_cons, hf] at hC
    simp only [List.mem_cons, not_or] at hC
    exact ⟨hk, ⟨L, o, hf, hn, (hs.2 L (Ne.symm hC.1)).trans ho, hd⟩, ih hC.2 hr⟩

theorem sg_turn (G : Glo h₀ mg mb) (hA : AOk A outer 3) (hkk : EndsWell prog w (gEnv C aF cd) kk)
    (hnext : wpAny (model prog w) (A.over (forCode it (gEnv C aF cd)) [.ret kk none false l' (.func gBody (gEnv C aF cd)) p' []]) (pyNext it)
      (TurnR prog w h₀ C outer (gEnv C aF cd) it lastv Φ) (TurnE outer (gEnv C aF cd) Φ) s) :
    Sg (model prog w) A Φ (forCode it (gEnv C aF cd)) ((model prog w).den (forCode it (gEnv C aF cd))) [.ret kk none false l' (.func gBody (gEnv C aF cd)) p' []] s := by
  refine sg_forLoop (wpAny_mono hnext (fun r s₁ hr => ?_) (fun x s₁ hx => ?_))
  · cases r with
    | none => exact sg_leaf (.ok .next) (hkk.next _ _ _ hr)
    | some v =>
      obtain ⟨n, t, m', rfl, F, hl, hfr, hC, h1, h2, h3, h4⟩ := hr
      refine wpAny_assign_Name (wpAny_storeName_local (env := gEnv C aF cd) (name := Str.ofString "interval") rfl F.ns (fun h' hn hs => ?_) rfl)
      have F' := F.set hn hs
      refine sg_body G hA F' (if_pos rfl) ((if_neg (by decide)).trans hl) (hfr.sameBut hs hC) hkk ?_ ?_ ?_ ?_
      · exact fun e tk => h1 e h' tk hs
      · exact fun e1 e2 tk e er es => h2 e1 e2 h' tk e hs ⟨_, hn, (if_neg (by decide)).trans hl⟩ er es
      · exact fun e1 e2 tk e er es => h3 e1 e2 h' tk e hs ⟨_, hn, if_pos rfl⟩ er es
      · exact fun e1 e2 e tk h'' ho => h4 e1 e2 h' tk e h'' hs ho
  · obtain ⟨e, B, cls, a0, rfl, hfl, hΦ⟩ := hx
    refine noteOut_tail (wpAny_looks_onW (hA.overFor).frames rfl hfl fun h' hheld hu => ?_)
    exact out_tail hkk rfl hheld fun h₂ hfly hu₂ => hΦ h₂ hfly (hu.trans hu₂)

theorem from_loop {N : Nat} {gs : GenState} {Q : Option Value → Shared → Prop} {E : Value → Shared → Prop} {last : Value} (hA : AOk A outer (N + 4)) (G : Glo h₀ mg mb) (hl : s.heap.NoLimit) (hg : s.heap.IsGen a g)
    (hgs : s.gens[g]? = some gs) (hsus : SusFor prog w (gEnv C aF cd) it gs) (F : Fr h₀ C s.heap m) (hi : m (Str.ofString "interval") = some last)
    (hnext : ∀ A₁ h₁ tk, AOk A₁ (gEnv C aF cd :: outer) (N + 2) → Heap.SameBut C s.heap h₁ → (∃ m₁, Fr h₀ C h₁ m₁ ∧ m₁ (Str.ofString "last_interval") = some last) →
      wpAny (model prog w) A₁ (pyNext it) (TurnR prog w h₀ C outer (gEnv C aF cd) it last (GenPost a g Q E)) (TurnE outer (gEnv C aF cd) (GenPost a g Q E)) { s.setGen g .running with heap := h₁, toks := tk }) :
    wpAny (model prog w) A (pyNext (.ref a)) Q E s := by
  obtain ⟨k, l, p, kk, l', p', rfl, hkk, hgo⟩ := hsus
  refine gen_next hA hl hg hgs ?_
  refine hgo _ _ _ _ ?_
  refine sg_stmt (wpAny_Assign_Name (ld (s := s.setGen g .running) F hi (wpAny_storeName_local (env := gEnv C aF cd) (name := Str.ofString "last_interval") rfl F.ns (fun h' hn hs => ?_) rfl)))
  show Sg _ _ _ _ (.pure (.again _)) _ _
  refine sg_again rfl (sg_turn (lastv := last) G (hA.in1.less (by omega)) hkk ?_)
  exact hnext _ h' _ (AOk.overFor (hA.in1.less (by omega))) hs ⟨_, F.set hn hs, if_pos rfl⟩

theorem from_fresh {N : Nat} {Q : Option Value → Shared → Prop} {E : Value → Shared → Prop} {src : Value} (hA : AOk A outer (N + 4)) (G : Glo h₀ mg mb) (hl : s.heap.NoLimit) (hg : s.heap.IsGen a g)
    (hgs : s.gens[g]? = some (.fresh (.func gBody (gEnv C aF cd)))) (F : Fr h₀ C s.heap m) (hi : m (Str.ofString "grouping") = some src)
    (hiter : ∀ A₁ h₁ tk, AOk A₁ (gEnv C aF cd :: outer) (N + 2) → Heap.SameBut C s.heap h₁ → (∃ m₁, Fr h₀ C h₁ m₁ ∧ m₁ (Str.ofString "last_interval") = some .none) →
      wpAny (model prog w) A₁ (pyIter src) (fun it s₂ => ∀ A₂, AOk A₂ (gEnv C aF cd :: outer) (N + 2) →
        wpAny (model prog w) A₂ (pyNext it) (TurnR prog w h₀ C outer (gEnv C aF cd) it .none (GenPost a g Q E)) (TurnE outer (gEnv C aF cd) (GenPost a g Q E)) s₂) (fun _ _ => False) { s.setGen g .running with heap := h₁, toks := tk }) :
    wpAny (model prog w) A (pyNext (.ref a)) Q E s := by
  refine gen_next hA hl hg hgs ?_
  refine sg_func ?_
  refine sg_stmt (wpAny_Assign_Name (wpAny_pure (wpAny_storeName_local (s := s.setGen g .running) (env := gEnv C aF cd) (name := Str.ofString "last_interval") rfl F.ns (fun h' hn hs => ?_) rfl)))
  have F' := F.set hn hs
  show Sg _ _ _ _ _ _ _
  refine sg_execs_cons (sg_For (ld F' ((if_neg (by decide)).trans hi) ?_))
  refine wpAny_mono (hiter _ h' _ (AOk.overFunc (hA.in1.less (by omega))) hs ⟨_, F', if_pos rfl⟩) (fun it s₂ h₂ p => ?_) fun _ _ x => x.elim
  exact sg_turn G (hA.in1.less (by omega)) EndsWell.mk' (h₂ _ (AOk.overFor (hA.in1.less (by omega))))

theorem from_rep {N : Nat} {gs : GenState} {Q : Option Value → Shared → Prop} {E : Value → Shared → Prop} {v : Value} (hA : AOk A outer (N + 4)) (hl : s.heap.NoLimit) (hg : s.heap.IsGen a g)
    (hgs : s.gens[g]? = some gs) (hsus : SusWh prog w (gEnv C aF cd) gs) (F : Fr h₀ C s.heap m) (hi : m (Str.ofString "last_interval") = some v)
    (hQ : ∀ gs' tk, SusWh prog w (gEnv C aF cd) gs' → gs'.bare = true → Q (some v) (({ s.setGen g .running with toks := tk }).setGen g gs')) :
    wpAny (model prog w) A (pyNext (.ref a)) Q E s := by
  obtain ⟨k, l, p, fs, rfl, hfg, hfs, hgo⟩ := hsus
  refine gen_next hA hl hg hgs ?_
  refine hgo _ _ _ (sg_whileLoop ?_)
  refine isTrue_plain (wpAny_pure (wpAny_truthy_bool ⟨rfl, ?_⟩))
  refine sg_execs_cons (sg_Expr_Yield hfs rfl hfg (ld (s := s.setGen g .running) F hi fun l k p hk => ?_))
  intro hb
  exact hQ _ _ ⟨k, l, p, fs, (by simp only [End.genState, hfg, Bool.or_false]), hfg, hfs, fun A Φ s h => by rw [hk]; exact sg_again rfl h⟩ hb
end
end Mine

namespace Mine

/-- a generator object: its address, its frame, its number -/
structure Lv where
  a : Addr
  C : Addr
  g : Nat

inductive OutK where
  | val (v : Value)
  | stop
  | err

structure Soft (C : Addr) (g : Nat) (s s' : Shared) : Prop where
  heap : ∀ b o, b ≠ C → s.heap.get? b = some o → s'.heap.get? b = some o
  size : s'.gens.size = s.gens.size
  gens : ∀ i, i ≠ g → s'.gens[i]? = s.gens[i]?
  os : s'.os = s.os

structure Kept (Bd : Addr → Prop) (Cs : List Addr) (Gs : List Nat) (s s' : Shared) : Prop where
  heap : ∀ b o, Bd b → b ∉ Cs → s.heap.get? b = some o → s'.heap.get? b = some o
  size : s'.gens.size = s.gens.size
  gens : ∀ i, i ∉ Gs → s'.gens[i]? = s.gens[i]?
  os : s'.os = s.os
  bare : ∀ i ∈ Gs, ∀ x, s'.gens[i]? = some x → x.bare = true

structure OutS (Bd : Addr → Prop) (Cs : List Addr) (Gs : List Nat) (s : Shared) (outer : List Env) (e : Addr) (s' : Shared) : Prop where
  fly : ∃ B t tk, (∀ b o, s.heap.get? b = some o → Bd b → b ∉ Cs → b ∉ outer.filterMap (·.frame) → B.get? b = some o) ∧
    Heap.FlyingW B outer e (.type "ValueError") (.ref t) s'.heap ∧ B.get? t = none ∧ s'.heap.TupAt t [.str (Str.ofString "invalid grouping") tk]
  slots : ∀ b o, s.heap.get? b = some o → Bd b → b ∉ Cs → (∀ vs, o.data ≠ .fields vs) → ∃ sl, s'.heap.get? b = some { o with slots := sl }
  size : s'.gens.size = s.gens.size
  gens : ∀ i, i ∉ Gs → s'.gens[i]? = s.gens[i]?
  os : s'.os = s.os
  bare : ∀ i ∈ Gs, ∀ x, s'.gens[i]? = some x → x.bare = true

/-- what is asked of next() -/
def Ask (Bd : Addr → Prop) (Cs : List Addr) (Gs : List Nat) (s : Shared) (outer : List Env) (J : Shared → Prop) (Q : Option Value → Shared → Prop) (E : Value → Shared → Prop) : OutK → Prop
  | .val v => ∀ s', Kept Bd Cs Gs s s' → J s' → Q (some v) s'
  | .stop => ∀ s', Kept Bd Cs Gs s s' → J s' → Q none s'
  | .err => ∀ s' e, OutS Bd Cs Gs s outer e s' → J s' → E (.ref e) s'

def Ctr (prog : Program) (w : World) (it : Value) (outer : List Env) (N : Nat) (Bd : Addr → Prop) (Cs : List Addr) (Gs : List Nat) (s : Shared) (o : OutK) (J : Shared → Prop) : Prop :=
  ∀ A Q E, AOk A outer N → Ask Bd Cs Gs s outer J Q E o → wpAny (model prog w) A (pyNext it) Q E s

theorem Kept.frm {Bd : Addr → Prop} {Cs : List Addr} {Gs : List Nat} {s s' : Shared} (k : Kept Bd Cs Gs s s') {C : Addr} {m : Str → Option Value} (hn : s.heap.Ns C m) (hC : Bd C) (hn' : C ∉ Cs) : s'.heap.Ns C m := by
  obtain ⟨o, es, ep, ho, r⟩ := hn
  exact ⟨o, es, ep, k.heap _ _ hC hn' ho, r⟩

theorem Soft.refl {C : Addr} {g : Nat} {s : Shared} : Soft C g s s := ⟨fun _ _ _ e => e, rfl, fun _ _ => rfl, rfl⟩

theorem setGen_size (s : Shared) (g : Nat) (x : GenState) : (s.setGen g x).gens.size = s.gens.size := by simp [Shared.setGen]
theorem setGen_other {s : Shared} {g i : Nat} {x : GenState} (h : i ≠ g) : (s.setGen g x).gens[i]? = s.gens[i]? := by
  simp [Shared.setGen, Ne.symm h]
theorem setGen_at {s : Shared} {g : Nat} {x : GenState} (h : g < s.gens.size) : (s.setGen g x).gens[g]? = some x := by
  simp [Shared.setGen, h]

section
variable {prog : Program} {w : World} {s : Shared} {h₀ : Heap} {aF : Addr} {Bd : Addr → Prop} {cd : Value} {outer : List Env} {mg mb : Str → Option Value} {L : Lv} {src : Value} {N : Nat} {Cs : List Addr} {Gs : List Nat} {o : OutK} {J : Shared → Prop}

/-- begun or not, it goes on with its source -/
def Alive (prog : Program) (w : World) (aF : Addr) (cd : Value) (L : Lv) (src : Value) (s : Shared) : Prop :=
  (s.gens[L.g]? = some (.fresh (.func gBody (gEnv L.C aF cd))) ∧ ∃ m, s.heap.Ns L.C m ∧ m (Str.ofString "grouping") = some src) ∨
  ∃ gs last m, s.gens[L.g]? = some gs ∧ SusFor prog w (gEnv L.C aF cd) src gs ∧ s.heap.Ns L.C m ∧ m (Str.ofString "interval") = some last

structure Stat (h₀ : Heap) (Bd : Addr → Prop) (L : Lv) (Cs : List Addr) (Gs : List Nat) (outer : List Env) (s : Shared) : Prop where
  base : ∀ b o, h₀.get? b = some o → s.heap.get? b = some o
  above : h₀.objs.size ≤ L.C
  low : ∀ b, b < h₀.objs.size → Bd b
  csAbove : ∀ c ∈ Cs, h₀.objs.size ≤ c
  nolimit : h₀.NoLimit
  gen : s.heap.IsGen L.a L.g
  frames : FramesOn outer s.heap
  framesAbove : ∀ b ∈ outer.filterMap (·.frame), h₀.objs.size ≤ b ∧ Bd b ∧ b ∉ Cs
  cFrames : L.C ∉ outer.filterMap (·.frame)
  cCs : L.C ∉ Cs
  cBd : Bd L.C
  gGs : L.g ∉ Gs
  aBd : Bd L.a
  aC : L.a ≠ L.C
  aCs : L.a ∉ Cs
  aFrames : L.a ∉ outer.filterMap (·.frame)

theorem FramesOn.keeps {h h' : Heap} (x : FramesOn outer h) (k : ∀ b ∈ outer.filterMap (·.frame), ∀ o, h.get? b = some o → h'.get? b = some o) : FramesOn outer h' := by
  intro base hb
  have hx := x base hb
  clear x hb
  induction outer with
  | nil => trivial
  | cons env rest ih =>
    obtain ⟨hk, ⟨L, o, hf, hn, ho, hd⟩, hr⟩ := hx
    refine ⟨hk, ⟨L, o, hf, hn, k L (by rw [List.filterMap_cons, hf]; exact .head _) o ho, hd⟩, ih (fun b hb => k b ?_) hr⟩
    rw [List.filterMap_cons, hf]; exact .tail _ hb

theorem kept_up {s₁ s' : Shared} {h' : Heap} {tk : Nat} {x : GenState} (hg : L.g < s.gens.size) (soft : Soft L.C L.g s s₁) (k : Kept Bd Cs Gs s₁ s')
    (hk : ∀ b o, b ≠ L.C → s'.heap.get? b = some o → h'.get? b = some o) (hx : x.bare = true) :
    Kept Bd (L.C :: Cs) (L.g :: Gs) s (({ s' with heap := h', toks := tk } : Shared).setGen L.g x) ∧ (({ s' with heap := h', toks := tk } : Shared).setGen L.g x).gens[L.g]? = some x := by
  have hsz : L.g < s'.gens.size := by rw [k.size, soft.size]; exact hg
  have hat : (({ s' with heap := h', toks := tk } : Shared).setGen L.g x).gens[L.g]? = some x := setGen_at hsz
  refine ⟨⟨fun b o hb hn e => ?_, ?_, fun i hi => ?_, k.os.trans soft.os, fun i hi y hy => ?_⟩, hat⟩
  · simp only [List.mem_cons, not_or] at hn
    exact hk b o hn.1 (k.heap b o hb hn.2 (soft.heap b o hn.1 e))
  · exact (setGen_size _ _ _).trans (k.size.trans soft.size)
  · simp only [List.mem_cons, not_or] at hi
    exact (setGen_other hi.1).trans ((k.gens i hi.2).trans (soft.gens i hi.1))
  · by_cases e : i = L.g
    · subst e; rw [hat] at hy; cases hy; exact hx
    · have h1 : i ∈ Gs := (List.mem_cons.mp hi).resolve_left e
      rw [setGen_other e] at hy
      exact k.bare i h1 y hy

theorem soft_up {C : Addr} {g : Nat} {s' : Shared} {h' : Heap} {tk : Nat} {x : GenState} (hk : ∀ b o, b ≠ C → s'.heap.get? b = some o → h'.get? b = some o) :
    Soft C g s' (({ s' with heap := h', toks := tk } : Shared).setGen g x) :=
  ⟨hk, setGen_size _ _ _, fun _ hi => setGen_other hi, rfl⟩

/-- a source's contract answers a turn of the generator over it -/
theorem turn_of_ctr {A : Around} {s₁ : Shared} {m₁ : Str → Option Value} {lastv : Value} {Q : Option Value → Shared → Prop} {E : Value → Shared → Prop} (st : Stat h₀ Bd L Cs Gs outer s)
    (ho : ∀ v, o = .val v → ∃ n t, v = .int n t ∧ n ≠ 127 ∧ n ≠ 0) (hg : L.g < s.gens.size)
    (hA : AOk A (gEnv L.C aF cd :: outer) N) (soft : Soft L.C L.g s s₁) (hb : ∀ b o, h₀.get? b = some o → s₁.heap.get? b = some o) (ns : s₁.heap.Ns L.C m₁) (hl : m₁ (Str.ofString "last_interval") = some lastv)
    (hc : Ctr prog w src (gEnv L.C aF cd :: outer) N Bd Cs Gs s₁ o J)
    (hJ : ∀ s₁ s₂, J s₁ → Soft L.C L.g s₁ s₂ → J s₂) (hJe : o = .err → ∀ s₁ s₂, J s₁ → (∀ i, i ≠ L.g → s₂.gens[i]? = s₁.gens[i]?) → J s₂)
    (ask : Ask Bd (L.C :: Cs) (L.g :: Gs) s outer (fun s' => J s' ∧ (∀ v, o = .val v → Alive prog w aF cd L src s') ∧ ((∀ v, o ≠ .val v) → s'.gens[L.g]? = some .finished)) Q E o) :
    wpAny (model prog w) A (pyNext src) (TurnR prog w h₀ L.C outer (gEnv L.C aF cd) src lastv (GenPost L.a L.g Q E)) (TurnE outer (gEnv L.C aF cd) (GenPost L.a L.g Q E)) s₁ := by
  refine hc A _ _ hA ?_
  cases o with
  | val v =>
    intro s' k j
    obtain ⟨n, t, rfl, hn, hn0⟩ := ho v rfl
    refine ⟨n, t, m₁, rfl, ⟨k.frm ns st.cBd st.cCs, fun b o e => ?_, st.above⟩, hl, ?_, st.cFrames, fun e => absurd e hn, fun e => absurd e hn0, ?_, fun e => absurd e hn0⟩
    · have hlt := Heap.lt_size e
      exact k.heap b o (st.low b hlt) (fun hm => absurd (st.csAbove b hm) (Nat.not_le.mpr hlt)) (hb b o e)
    · exact (st.frames.keeps fun b hb o e => soft.heap b o (fun q => st.cFrames (q ▸ hb)) e).keeps fun b hb o e => k.heap b o (st.framesAbove b hb).2.1 (st.framesAbove b hb).2.2 e
    · intro _ _ h' tk e hs hns her hes
      cases e with
      | ret r => cases r <;> simp [End.result] at her
      | susp v' gd l kk c p fs =>
        have hv : v' = .int n t := by simpa [End.result] using her
        subst hv
        intro hb'
        obtain ⟨hK, hat⟩ := kept_up (tk := tk) (h' := h') hg soft k (fun b o hne e => (hs.2 b hne).trans e) hb'
        obtain ⟨m₂, hm₂, hi₂⟩ := hns
        exact ask _ hK ⟨hJ _ _ j (soft_up fun b o hne e => (hs.2 b hne).trans e), fun _ _ => .inr ⟨_, _, m₂, hat, hes, hm₂, hi₂⟩, fun h => absurd rfl (h _)⟩
  | stop =>
    intro s' k j
    refine ⟨rfl, fun h' hk => ?_⟩
    obtain ⟨hK, hat⟩ := kept_up (tk := s'.toks) (h' := h') (x := .finished) hg soft k (fun b o _ e => hk b o e) rfl
    exact ask _ hK ⟨hJ _ _ j (soft_up fun b o _ e => hk b o e), fun _ h => (by cases h), fun _ => hat⟩
  | err =>
    intro s' e k j
    obtain ⟨B, t, tk, hB, hfl, hBt, htup⟩ := k.fly
    refine ⟨e, B, _, _, rfl, hfl, fun h' hfl' hu => ?_⟩
    obtain ⟨ob, hob, hoc⟩ := hfl'.there
    have hga : B.get? L.a = s₁.heap.get? L.a := by
      obtain ⟨oa, nm, qn, hoa, _⟩ := st.gen
      have h1 := soft.heap _ _ st.aC hoa
      rw [h1]
      refine hB _ _ h1 st.aBd st.aCs fun hm => ?_
      rcases List.mem_cons.mp hm with q | q
      · exact st.aC q
      · exact st.aFrames q
    refine ⟨e, ob, rfl, hob, hoc, ?_, ?_⟩
    · obtain ⟨oa, nm, qn, hoa, r⟩ := st.gen
      refine ⟨oa, nm, qn, hfl'.1 _ _ (hga.trans (soft.heap _ _ st.aC hoa)), r⟩
    · have hsz : L.g < s'.gens.size := by rw [k.size, soft.size]; exact hg
      refine ask _ e ⟨⟨B, t, tk, fun b o hb1 hb2 hb3 hb4 => ?_, hfl', hBt, htup.of_slots hu⟩, fun b o hb1 hb2 hb3 hb4 => ?_, ?_, fun i hi => ?_, k.os.trans soft.os, fun i hi y hy => ?_⟩ ⟨?_, fun _ h => (by cases h), fun _ => setGen_at hsz⟩
      · simp only [List.mem_cons, not_or] at hb3
        refine hB b o (soft.heap b o hb3.1 hb1) hb2 hb3.2 fun hm => ?_
        rcases List.mem_cons.mp hm with q | q
        · exact hb3.1 q
        · exact hb4 q
      · simp only [List.mem_cons, not_or] at hb3
        obtain ⟨sl, h1⟩ := k.slots b o (soft.heap b o hb3.1 hb1) hb2 hb3.2 hb4
        obtain ⟨sl', h2⟩ := hu b _ h1 hb4
        exact ⟨sl', h2⟩
      · exact (setGen_size _ _ _).trans (k.size.trans soft.size)
      · simp only [List.mem_cons, not_or] at hi
        exact (setGen_other hi.1).trans ((k.gens i hi.2).trans (soft.gens i hi.1))
      · by_cases q : i = L.g
        · subst q
          have hat : (({ s' with heap := h' } : Shared).setGen L.g .finished).gens[L.g]? = some .finished := setGen_at hsz
          rw [hat] at hy; cases hy; rfl
        · have h1 : i ∈ Gs := (List.mem_cons.mp hi).resolve_left q
          rw [setGen_other q] at hy
          exact k.bare i h1 y hy
      · exact hJe rfl _ _ j fun i hi => setGen_other hi

/-- the step of a generator over a generator -/
theorem lv_alive {b : Addr} {gb : Nat} (G : Glo h₀ mg mb) (st : Stat h₀ Bd L Cs Gs outer s) (hg : L.g < s.gens.size) (al : Alive prog w aF cd L (.ref b) s) (hsg : s.heap.IsGen b gb) (hbC : b ≠ L.C)
    (ho : ∀ v, o = .val v → ∃ n t, v = .int n t ∧ n ≠ 127 ∧ n ≠ 0)
    (hc : ∀ s₁ m₁, Soft L.C L.g s s₁ → s₁.heap.Ns L.C m₁ → Ctr prog w (.ref b) (gEnv L.C aF cd :: outer) (N + 2) Bd Cs Gs s₁ o J)
    (hJ : ∀ s₁ s₂, J s₁ → Soft L.C L.g s₁ s₂ → J s₂) (hJe : o = .err → ∀ s₁ s₂, J s₁ → (∀ i, i ≠ L.g → s₂.gens[i]? = s₁.gens[i]?) → J s₂) :
    Ctr prog w (.ref L.a) outer (N + 4) Bd (L.C :: Cs) (L.g :: Gs) s o (fun s' => J s' ∧ (∀ v, o = .val v → Alive prog w aF cd L (.ref b) s') ∧ ((∀ v, o ≠ .val v) → s'.gens[L.g]? = some .finished)) := by
  intro A Q E hA ask
  have hl : s.heap.NoLimit := st.nolimit.keeps st.base
  have sf : ∀ h₁ tk, Heap.SameBut L.C s.heap h₁ → Soft L.C L.g s { s.setGen L.g .running with heap := h₁, toks := tk } := fun h₁ tk hs =>
    ⟨fun b o hne e => (hs.2 b hne).trans e, setGen_size _ _ _, fun _ hi => setGen_other hi, rfl⟩
  rcases al with ⟨hgs, m, hm, hi⟩ | ⟨gs, last, m, hgs, hsus, hm, hi⟩
  · refine from_fresh hA G hl st.gen hgs ⟨hm, st.base, st.above⟩ hi fun A₁ h₁ tk hA₁ hs hm₁ => ?_
    obtain ⟨m₁, F₁, hl₁⟩ := hm₁
    obtain ⟨ob, nm, qn, hob, r⟩ := hsg
    refine wpAny_pyIter_gen (g := gb) ⟨ob, nm, qn, (hs.2 b hbC).trans hob, r⟩ fun A₂ hA₂ => ?_
    exact turn_of_ctr st ho hg hA₂ (sf h₁ tk hs) F₁.keep F₁.ns hl₁ (hc _ _ (sf h₁ tk hs) F₁.ns) hJ hJe ask
  · refine from_loop hA G hl st.gen hgs hsus ⟨hm, st.base, st.above⟩ hi fun A₁ h₁ tk hA₁ hs hm₁ => ?_
    obtain ⟨m₁, F₁, hl₁⟩ := hm₁
    exact turn_of_ctr st ho hg hA₁ (sf h₁ tk hs) F₁.keep F₁.ns hl₁ (hc _ _ (sf h₁ tk hs) F₁.ns) hJ hJe ask

/-- the step of one that has ended -/
theorem lv_done (hgen : s.heap.IsGen L.a L.g) (hfin : s.gens[L.g]? = some .finished) (hbare : ∀ i ∈ Gs, ∀ x, s.gens[i]? = some x → x.bare = true)
    (hJ : ∀ h', (∀ b o, s.heap.get? b = some o → h'.get? b = some o) → J { s with heap := h' }) : Ctr prog w (.ref L.a) outer (N + 1) Bd Cs Gs s .stop J := by
  intro A Q E hA ask
  exact gen_next_done hA hgen hfin fun h' hk => ask _ ⟨fun b o _ _ e => hk b o e, rfl, fun _ _ => rfl, rfl, hbare⟩ (hJ h' hk)
end

/-! ## the first generator, over the list -/
section
variable {prog : Program} {w : World} {s : Shared} {h₀ : Heap} {aF lS : Addr} {Bd : Addr → Prop} {cd : Value} {outer : List Env} {mg mb : Str → Option Value} {L : Lv} {N : Nat} {vs : List Value} {xs : List Int}

inductive S0 where
  | run (i : Nat)
  | rep (v : Value)
  | done

def St0 (prog : Program) (w : World) (aF : Addr) (cd : Value) (L : Lv) (lS : Addr) (Bd : Addr → Prop) (vs : List Value) : S0 → Shared → Prop
  | .run i, s => (i = 0 ∧ s.gens[L.g]? = some (.fresh (.func gBody (gEnv L.C aF cd))) ∧ ∃ m, s.heap.Ns L.C m ∧ m (Str.ofString "grouping") = some (.ref lS)) ∨
      ∃ I gs m last, 0 < i ∧ vs[i - 1]? = some last ∧ s.gens[L.g]? = some gs ∧ SusFor prog w (gEnv L.C aF cd) (.ref I) gs ∧ s.heap.Ns L.C m ∧ m (Str.ofString "interval") = some last ∧ s.heap.IsListIter I lS i ∧ ¬ Bd I
  | .rep v, s => ∃ gs m, s.gens[L.g]? = some gs ∧ SusWh prog w (gEnv L.C aF cd) gs ∧ s.heap.Ns L.C m ∧ m (Str.ofString "last_interval") = some v
  | .done, s => s.gens[L.g]? = some .finished

def out0 (vs : List Value) (xs : List Int) (i : Nat) : OutK := match xs[i]? with
  | none => .stop
  | some n => if n = 127 then .stop else if n = 0 then (if i = 0 then .err else .val (vs.getD (i - 1) .none)) else .val (vs.getD i .none)
def nx0 (vs : List Value) (xs : List Int) (i : Nat) : S0 := match xs[i]? with
  | none => .done
  | some n => if n = 127 then .done else if n = 0 then (if i = 0 then .done else .rep (vs.getD (i - 1) .none)) else .run (i + 1)

theorem kept_fin {s₁ : Shared} {h' : Heap} {tk : Nat} {x : GenState} (hg : L.g < s.gens.size) (k : Kept Bd [L.C] [L.g] s s₁)
    (hk : ∀ b o, Bd b → b ≠ L.C → s₁.heap.get? b = some o → h'.get? b = some o) (hx : x.bare = true) :
    Kept Bd [L.C] [L.g] s (({ s₁ with heap := h', toks := tk } : Shared).setGen L.g x) ∧ (({ s₁ with heap := h', toks := tk } : Shared).setGen L.g x).gens[L.g]? = some x := by
  have hsz : L.g < s₁.gens.size := by rw [k.size]; exact hg
  have hat : (({ s₁ with heap := h', toks := tk } : Shared).setGen L.g x).gens[L.g]? = some x := setGen_at hsz
  refine ⟨⟨fun b o hb hn e => hk b o hb (fun q => hn (by simp [q])) (k.heap b o hb hn e), (setGen_size _ _ _).trans k.size, fun i hi => ?_, k.os, fun i hi y hy => ?_⟩, hat⟩
  · have hi' : i ≠ L.g := fun q => hi (by simp [q])
    exact (setGen_other hi').trans (k.gens i hi)
  · have hi' : i = L.g := by simpa using hi
    subst hi'; rw [hat] at hy; cases hy; exact hx

theorem turn0 {A : Around} {s₁ : Shared} {m₁ : Str → Option Value} {lastv : Value} {I : Addr} {i : Nat} {Q : Option Value → Shared → Prop} {E : Value → Shared → Prop} (st : Stat h₀ Bd L [] [] outer s)
    (hl : s.heap.IsList lS vs.toArray) (hI : IntsAre vs xs) (hlS : Bd lS) (hlC : lS ≠ L.C) (hg : L.g < s.gens.size)
    (hA : AOk A (gEnv L.C aF cd :: outer) N) (k : Kept Bd [L.C] [L.g] s s₁) (ns : s₁.heap.Ns L.C m₁) (hlast : m₁ (Str.ofString "last_interval") = some lastv)
    (hlv : (i = 0 ∧ lastv = .none) ∨ (0 < i ∧ vs[i - 1]? = some lastv ∧ lastv ≠ .none)) (hit : s₁.heap.IsListIter I lS i) (hBI : ¬ Bd I)
    (ask : Ask Bd [L.C] [L.g] s outer (St0 prog w aF cd L lS Bd vs (nx0 vs xs i)) Q E (out0 vs xs i)) :
    wpAny (model prog w) A (pyNext (.ref I)) (TurnR prog w h₀ L.C outer (gEnv L.C aF cd) (.ref I) lastv (GenPost L.a L.g Q E)) (TurnE outer (gEnv L.C aF cd) (GenPost L.a L.g Q E)) s₁ := by
  have hl₁ : s₁.heap.IsList lS vs.toArray := let ⟨ol, hol, r⟩ := hl; ⟨ol, k.heap _ _ hlS (by simpa using hlC) hol, r⟩
  have hlen := hI.length
  have hIC : I ≠ L.C := fun q => hBI (q ▸ st.cBd)
  have fin : ∀ {h' : Heap} {tk : Nat} {x : GenState}, (∀ b o, Bd b → b ≠ L.C → s₁.heap.get? b = some o → h'.get? b = some o) → x.bare = true →
      Kept Bd [L.C] [L.g] s (({ s₁ with heap := h', toks := tk } : Shared).setGen L.g x) ∧ (({ s₁ with heap := h', toks := tk } : Shared).setGen L.g x).gens[L.g]? = some x := fun hk hx => kept_fin hg k hk hx
  have notI : ∀ b, Bd b → b ≠ I := fun b hb q => hBI (q ▸ hb)
  cases hx : xs[i]? with
  | none =>
    simp only [out0, nx0, hx] at ask
    have hv : vs.toArray[i]? = none := by
      have : xs.length ≤ i := by simpa using hx
      simp only [List.getElem?_toArray, List.getElem?_eq_none_iff]; omega
    refine wpAny_pyNext_list_end hA.handled hit hl₁ hv fun h' he => ?_
    refine ⟨rfl, fun h'' hk => ?_⟩
    obtain ⟨h1, h2⟩ := fin (tk := s₁.toks) (h' := h'') (x := .finished) (fun b o hb _ e => hk b o (he b o (notI b hb) e)) rfl
    exact ask _ h1 h2
  | some n =>
    obtain ⟨t, hv⟩ := hI.get i n hx
    refine wpAny_pyNext_list_item hit hl₁ (by simpa using hv) fun h' hit' hs => ?_
    have kI : ∀ b o, Bd b → s₁.heap.get? b = some o → h'.get? b = some o := fun b o hb e => (hs.2 b (notI b hb)).trans e
    have hgd : vs.getD i .none = .int n t := by simp [List.getD, hv]
    refine ⟨n, t, m₁, rfl, ⟨ns.sameBut hs (Ne.symm hIC), fun b o e => ?_, st.above⟩, hlast, ?_, st.cFrames, ?_, ?_, ?_, ?_⟩
    · have hlt := Heap.lt_size e
      have hb := st.low b hlt
      exact kI b o hb (k.heap b o hb (by simpa using fun q : b = L.C => absurd st.above (Nat.not_le.mpr (q ▸ hlt))) (st.base b o e))
    · exact (st.frames.keeps fun b hb o e => k.heap b o (st.framesAbove b hb).2.1 (by simpa using fun q : b = L.C => st.cFrames (q ▸ hb)) e).keeps fun b hb o e => kI b o (st.framesAbove b hb).2.1 e
    · intro hn h'' tk hs'
      simp only [out0, nx0, hx, hn, if_true] at ask
      refine ⟨rfl, fun h3 hk => ?_⟩
      obtain ⟨h1, h2⟩ := fin (tk := tk) (h' := h3) (x := .finished) (fun b o hb hne e => hk b o ((hs'.2 b hne).trans (kI b o hb e))) rfl
      exact ask _ h1 h2
    · intro hn hln h'' tk e hs' hns her hes
      rcases hlv with ⟨_, q⟩ | ⟨h0i, hvl, _⟩
      · exact absurd q hln
      have hne : ¬ i = 0 := by omega
      have hgl : vs.getD (i - 1) .none = lastv := by simp [List.getD, hvl]
      simp only [out0, nx0, hx, hn, show ¬ ((0 : Int) = 127) by decide, if_false, if_true, if_neg hne, hgl] at ask
      cases e with
      | ret r => cases r <;> simp [End.result] at her
      | susp v' gd l kk c p fs =>
        have hv' : v' = lastv := by simpa [End.result] using her
        subst hv'
        intro hb'
        obtain ⟨h1, h2⟩ := fin (tk := tk) (h' := h'') (x := (End.susp v' gd l kk c p fs).genState) (fun b o hb hne e => (hs'.2 b hne).trans (kI b o hb e)) hb'
        obtain ⟨m₂, hm₂, hi₂⟩ := hns
        exact ask _ h1 ⟨_, m₂, h2, hes, hm₂, hi₂⟩
    · intro hn hn0 h'' tk e hs' hns her hes
      simp only [out0, nx0, hx, if_neg hn, if_neg hn0, hgd] at ask
      cases e with
      | ret r => cases r <;> simp [End.result] at her
      | susp v' gd l kk c p fs =>
        have hv' : v' = .int n t := by simpa [End.result] using her
        subst hv'
        intro hb'
        obtain ⟨h1, h2⟩ := fin (tk := tk) (h' := h'') (x := (End.susp (.int n t) gd l kk c p fs).genState) (fun b o hb hne e => (hs'.2 b hne).trans (kI b o hb e)) hb'
        obtain ⟨m₂, hm₂, hi₂⟩ := hns
        exact ask _ h1 (.inr ⟨I, _, m₂, _, Nat.succ_pos i, hv, h2, hes, hm₂, hi₂, hit'.extBut hs'.extBut hIC, hBI⟩)
    · intro hn hln h'' tk e h3 hs' ho
      have hi0 : i = 0 := hlv.elim (fun q => q.1) fun q => absurd hln q.2.2
      subst hi0
      simp only [out0, nx0, hx, hn, show ¬ ((0 : Int) = 127) by decide, if_false, if_true] at ask
      obtain ⟨B, t, tk', hB, hfl, hBt, htup⟩ := ho.fly
      obtain ⟨ob, hob, hoc⟩ := hfl.there
      have toH : ∀ b o, Bd b → b ≠ L.C → s.heap.get? b = some o → h''.get? b = some o := fun b o hb hne e => (hs'.2 b hne).trans (kI b o hb (k.heap b o hb (by simpa using hne) e))
      have hsz : L.g < s₁.gens.size := by rw [k.size]; exact hg
      have hat : (({ s₁ with heap := h3, toks := tk } : Shared).setGen L.g .finished).gens[L.g]? = some .finished := setGen_at hsz
      refine ⟨e, ob, rfl, hob, hoc, ?_, ?_⟩
      · obtain ⟨oa, nm, qn, hoa, r⟩ := st.gen
        exact ⟨oa, nm, qn, hfl.1 _ _ (hB _ _ (toH _ _ st.aBd st.aC hoa) (by simpa using st.aC) st.aFrames), r⟩
      · refine ask _ e ⟨⟨B, t, tk', fun b o hb1 hb2 hb3 hb4 => hB b o (toH b o hb2 (by simpa using hb3) hb1) hb3 hb4, hfl, hBt, htup⟩, fun b o hb1 hb2 hb3 hb4 => ho.slots b o (toH b o hb2 (by simpa using hb3) hb1) hb3 hb4,
          (setGen_size _ _ _).trans k.size, fun i hi => ?_, k.os, fun i hi y hy => ?_⟩ hat
        · have hi' : i ≠ L.g := fun q => hi (by simp [q])
          exact (setGen_other hi').trans (k.gens i hi)
        · have hi' : i = L.g := by simpa using hi
          subst hi'; rw [hat] at hy; cases hy; rfl
end
end Mine

namespace Mine
section
variable {prog : Program} {w : World} {s : Shared} {h₀ : Heap} {aF lS : Addr} {Bd : Addr → Prop} {cd : Value} {outer : List Env} {mg mb : Str → Option Value} {L : Lv} {N : Nat} {vs : List Value} {xs : List Int}

def outS (vs : List Value) (xs : List Int) : S0 → OutK
  | .run i => out0 vs xs i
  | .rep v => .val v
  | .done => .stop
def nxS (vs : List Value) (xs : List Int) : S0 → S0
  | .run i => nx0 vs xs i
  | .rep v => .rep v
  | .done => .done

/-- the first generator's contract -/
theorem l0_ctr (G : Glo h₀ mg mb) (st : Stat h₀ Bd L [] [] outer s) (hl : s.heap.IsList lS vs.toArray) (hI : IntsAre vs xs) (hlS : Bd lS) (hlC : lS ≠ L.C) (hg : L.g < s.gens.size)
    (hBd : ∀ b, Bd b → b < s.heap.objs.size) (σ : S0) (h0 : St0 prog w aF cd L lS Bd vs σ s) :
    Ctr prog w (.ref L.a) outer (N + 4) Bd [L.C] [L.g] s (outS vs xs σ) (St0 prog w aF cd L lS Bd vs (nxS vs xs σ)) := by
  have hlim : s.heap.NoLimit := st.nolimit.keeps st.base
  have kp : ∀ h₁ tk, (∀ b o, Bd b → b ≠ L.C → s.heap.get? b = some o → h₁.get? b = some o) → Kept Bd [L.C] [L.g] s { s.setGen L.g .running with heap := h₁, toks := tk } := fun h₁ tk hk =>
    ⟨fun b o hb hn e => hk b o hb (by simpa using hn) e, setGen_size _ _ _, fun i hi => setGen_other (by simpa using hi), rfl, fun i hi x hx => by
      have hi' : i = L.g := by simpa using hi
      subst hi'
      rw [show ({ s.setGen L.g .running with heap := h₁, toks := tk } : Shared).gens[L.g]? = some .running from setGen_at hg] at hx
      cases hx; rfl⟩
  cases σ with
  | run i =>
    intro A Q E hA ask
    rcases h0 with ⟨rfl, hgs, m, hm, hi⟩ | ⟨I, gs, m, last, h0i, hvl, hgs, hsus, hm, hi, hit, hBI⟩
    · refine from_fresh hA G hlim st.gen hgs ⟨hm, st.base, st.above⟩ hi fun A₁ h₁ tk hA₁ hs hm₁ => ?_
      obtain ⟨m₁, F₁, hl₁⟩ := hm₁
      have hl' : h₁.IsList lS vs.toArray := let ⟨ol, hol, r⟩ := hl; ⟨ol, (hs.2 lS hlC).trans hol, r⟩
      refine wpAny_pyIter_list (s := { s.setGen L.g .running with heap := h₁, toks := tk }) hl' fun A₂ hA₂ => ?_
      have hsz : h₁.objs.size = s.heap.objs.size := hs.1
      refine turn0 st hl hI hlS hlC hg hA₂ (kp _ tk fun b o hb hne e => Heap.get?_push_of_some _ ((hs.2 b hne).trans e)) (F₁.ns.push _) hl₁ (.inl ⟨rfl, rfl⟩) ⟨_, Heap.get?_push_size _ rfl, rfl, rfl⟩ (fun hb => ?_) ask
      have := hBd _ hb
      exact absurd this (by show ¬ (h₁.objs.size < s.heap.objs.size); rw [hsz]; exact Nat.lt_irrefl _)
    · refine from_loop hA G hlim st.gen hgs hsus ⟨hm, st.base, st.above⟩ hi fun A₁ h₁ tk hA₁ hs hm₁ => ?_
      obtain ⟨m₁, F₁, hl₁⟩ := hm₁
      have hIC : I ≠ L.C := fun q => hBI (q ▸ st.cBd)
      refine turn0 st hl hI hlS hlC hg hA₁ (kp _ tk fun b o hb hne e => (hs.2 b hne).trans e) F₁.ns hl₁ (.inr ⟨h0i, hvl, ?_⟩) (hit.extBut hs.extBut hIC) hBI ask
      have hlt : i - 1 < xs.length := by
        have := (List.getElem?_eq_some_iff.mp hvl).1
        rw [hI.length] at this; exact this
      obtain ⟨t, hv⟩ := hI.get (i - 1) xs[i - 1] (by simp [hlt])
      rw [hvl] at hv; cases hv
      exact fun q => by cases q
  | rep v =>
    intro A Q E hA ask
    obtain ⟨gs, m, hgs, hsus, hm, hi⟩ := h0
    refine from_rep (h₀ := h₀) hA hlim st.gen hgs hsus ⟨hm, st.base, st.above⟩ hi fun gs' tk hsus' hb => ?_
    have hat : (({ s.setGen L.g .running with toks := tk } : Shared).setGen L.g gs').gens[L.g]? = some gs' := setGen_at (by rw [show ({ s.setGen L.g .running with toks := tk } : Shared).gens.size = s.gens.size from setGen_size _ _ _]; exact hg)
    refine ask _ ⟨fun b o _ _ e => e, (setGen_size _ _ _).trans (setGen_size _ _ _), fun i hi => (setGen_other (by simpa using hi)).trans (setGen_other (by simpa using hi)), rfl, fun i hi x hx => ?_⟩ ⟨gs', m, hat, hsus', hm, hi⟩
    have hi' : i = L.g := by simpa using hi
    subst hi'
    rw [hat] at hx; cases hx; exact hb
  | done =>
    have hd : s.gens[L.g]? = some .finished := h0
    intro A Q E hA ask
    refine lv_done (N := N + 3) (J := St0 prog w aF cd L lS Bd vs .done) st.gen hd (fun i hi x hx => ?_) (fun h' _ => hd) A Q E hA ask
    have hi' : i = L.g := by simpa using hi
    subst hi'
    rw [hd] at hx; cases hx; rfl
end

/-! ## the three of them -/
section
variable {prog : Program} {w : World} {s : Shared} {h₀ : Heap} {aF lS T : Addr} {Bd : Addr → Prop} {cd : Value} {outer : List Env} {mg mb : Str → Option Value} {L0 L1 L2 : Lv} {N : Nat} {vs : List Value} {xs : List Int}

def FrOK (h₀ : Heap) (Bd : Addr → Prop) (avoid : List Addr) (outer : List Env) : Prop := ∀ b ∈ outer.filterMap (·.frame), h₀.objs.size ≤ b ∧ Bd b ∧ b ∉ avoid

structure Con (h₀ : Heap) (Bd : Addr → Prop) (L0 L1 L2 : Lv) (lS T : Addr) : Prop where
  nolimit : h₀.NoLimit
  low : ∀ b, b < h₀.objs.size → Bd b
  ab0 : h₀.objs.size ≤ L0.C
  ab1 : h₀.objs.size ≤ L1.C
  ab2 : h₀.objs.size ≤ L2.C
  bC0 : Bd L0.C
  bC1 : Bd L1.C
  bC2 : Bd L2.C
  ba0 : Bd L0.a
  ba1 : Bd L1.a
  ba2 : Bd L2.a
  blS : Bd lS
  nd : [L0.C, L1.C, L2.C, L0.a, L1.a, L2.a, lS].Nodup
  gd : [L0.g, L1.g, L2.g].Nodup
  top : ∀ b, Bd b → b ≤ T
  tC : T ∉ [L0.C, L1.C, L2.C]

structure Bas (h₀ : Heap) (L0 L1 L2 : Lv) (lS T : Addr) (vs : List Value) (s : Shared) : Prop where
  base : ∀ b o, h₀.get? b = some o → s.heap.get? b = some o
  gen0 : s.heap.IsGen L0.a L0.g
  gen1 : s.heap.IsGen L1.a L1.g
  gen2 : s.heap.IsGen L2.a L2.g
  list : s.heap.IsList lS vs.toArray
  g0 : L0.g < s.gens.size
  g1 : L1.g < s.gens.size
  g2 : L2.g < s.gens.size
  top : ∃ o, s.heap.get? T = some o

theorem FrOK.cons {avoid : List Addr} {env : Env} {C : Addr} (h : FrOK h₀ Bd avoid outer) (hf : env.frame = some C) (h1 : h₀.objs.size ≤ C) (h2 : Bd C) {avoid' : List Addr} (hs : ∀ b ∈ avoid', b ∈ avoid) (hC : C ∉ avoid') : FrOK h₀ Bd avoid' (env :: outer) := by
  intro b hb
  rw [List.filterMap_cons, hf] at hb
  rcases List.mem_cons.mp hb with rfl | hb
  · exact ⟨h1, h2, hC⟩
  · obtain ⟨a, b', c⟩ := h b hb
    exact ⟨a, b', fun q => c (hs _ q)⟩

theorem FramesOn.cons {h : Heap} {env : Env} {C : Addr} {m : Str → Option Value} (x : FramesOn outer h) (hk : env.scope.kind ≠ .module) (hf : env.frame = some C) (hn : h.Ns C m) : FramesOn (env :: outer) h := by
  intro base hb
  have hf' : C ∈ (env :: outer).filterMap (·.frame) := by rw [List.filterMap_cons, hf]; exact .head _
  exact Heap.FunFrames.cons hk hf hn (hb _ hf') (x base fun b hb' => hb b (by rw [List.filterMap_cons, hf]; exact .tail _ hb'))

theorem Con.stat0 (K : Con h₀ Bd L0 L1 L2 lS T) (B : Bas h₀ L0 L1 L2 lS T vs s) (fo : FramesOn outer s.heap) (fr : FrOK h₀ Bd [L0.C, L0.a] outer) : Stat h₀ Bd L0 [] [] outer s := by
  have nd := K.nd
  simp only [List.nodup_cons, List.mem_cons, List.not_mem_nil, not_or, or_false] at nd
  exact ⟨B.base, K.ab0, K.low, (fun c hc => nomatch hc), K.nolimit, B.gen0, fo, fun b hb => ⟨(fr b hb).1, (fr b hb).2.1, List.not_mem_nil⟩, fun q => (fr _ q).2.2 (by simp), List.not_mem_nil, K.bC0, List.not_mem_nil, K.ba0,
    Ne.symm nd.1.2.2.1, List.not_mem_nil, fun q => (fr _ q).2.2 (by simp)⟩

theorem Con.stat1 (K : Con h₀ Bd L0 L1 L2 lS T) (B : Bas h₀ L0 L1 L2 lS T vs s) (fo : FramesOn outer s.heap) (fr : FrOK h₀ Bd [L0.C, L1.C, L1.a] outer) : Stat h₀ Bd L1 [L0.C] [L0.g] outer s := by
  have nd := K.nd
  have gd := K.gd
  simp only [List.nodup_cons, List.mem_cons, List.not_mem_nil, not_or, or_false] at nd gd
  exact ⟨B.base, K.ab1, K.low, (fun c hc => by rw [List.mem_singleton.mp hc]; exact K.ab0), K.nolimit, B.gen1, fo, fun b hb => ⟨(fr b hb).1, (fr b hb).2.1, fun q => (fr b hb).2.2 (by simp [List.mem_singleton.mp q])⟩, fun q => (fr _ q).2.2 (by simp),
    fun q => nd.1.1 (List.mem_singleton.mp q).symm, K.bC1, fun q => gd.1.1 (List.mem_singleton.mp q).symm, K.ba1,
    Ne.symm nd.2.1.2.2.1, fun q => nd.1.2.2.2.1 (List.mem_singleton.mp q).symm, fun q => (fr _ q).2.2 (by simp)⟩

theorem Con.stat2 (K : Con h₀ Bd L0 L1 L2 lS T) (B : Bas h₀ L0 L1 L2 lS T vs s) (fo : FramesOn outer s.heap) (fr : FrOK h₀ Bd [L0.C, L1.C, L2.C, L2.a] outer) : Stat h₀ Bd L2 [L1.C, L0.C] [L1.g, L0.g] outer s := by
  have nd := K.nd
  have gd := K.gd
  simp only [List.nodup_cons, List.mem_cons, List.not_mem_nil, not_or, or_false] at nd gd
  refine ⟨B.base, K.ab2, K.low, (fun c hc => ?_), K.nolimit, B.gen2, fo, fun b hb => ⟨(fr b hb).1, (fr b hb).2.1, fun q => (fr b hb).2.2 ?_⟩, fun q => (fr _ q).2.2 (by simp),
    fun q => ?_, K.bC2, fun q => ?_, K.ba2, Ne.symm nd.2.2.1.2.2.1, fun q => ?_, fun q => (fr _ q).2.2 (by simp)⟩
  · rcases List.mem_cons.mp hc with rfl | hc
    · exact K.ab1
    · rw [List.mem_singleton.mp hc]; exact K.ab0
  · simp only [List.mem_cons, List.not_mem_nil, or_false] at q ⊢
    rcases q with q | q
    · exact .inr (.inl q)
    · exact .inl q
  · simp only [List.mem_cons, List.not_mem_nil, or_false] at q
    rcases q with q | q
    · exact nd.2.1.1 q.symm
    · exact nd.1.2.1 q.symm
  · simp only [List.mem_cons, List.not_mem_nil, or_false] at q
    rcases q with q | q
    · exact gd.2.1 q.symm
    · exact gd.1.2 q.symm
  · simp only [List.mem_cons, List.not_mem_nil, or_false] at q
    rcases q with q | q
    · exact nd.2.1.2.2.2.1 q.symm
    · exact nd.1.2.2.2.2.1 q.symm

theorem IsGen.soft {h h' : Heap} {a g : Nat} {C : Addr} (x : h.IsGen a g) (hk : ∀ b o, b ≠ C → h.get? b = some o → h'.get? b = some o) (hne : a ≠ C) : h'.IsGen a g :=
  let ⟨o, nm, qn, ho, r⟩ := x; ⟨o, nm, qn, hk _ _ hne ho, r⟩

theorem Bas.soft {s₁ : Shared} {C : Addr} {g : Nat} (K : Con h₀ Bd L0 L1 L2 lS T) (B : Bas h₀ L0 L1 L2 lS T vs s) (sf : Soft C g s s₁) (hC : C ∈ [L0.C, L1.C, L2.C]) : Bas h₀ L0 L1 L2 lS T vs s₁ := by
  have nd := K.nd
  have ne : ∀ b ∈ [L0.a, L1.a, L2.a, lS], b ≠ C := by
    simp only [List.nodup_cons, List.mem_cons, List.not_mem_nil, not_or, or_false] at nd hC ⊢
    rintro b (rfl | rfl | rfl | rfl) rfl <;> rcases hC with q | q | q <;> simp_all
  have hTC : T ≠ C := fun q => K.tC (q ▸ hC)
  have hab : h₀.objs.size ≤ C := by
    have h1 := K.ab0
    have h2 := K.ab1
    have h3 := K.ab2
    simp only [List.mem_cons, List.not_mem_nil, or_false] at hC
    rcases hC with rfl | rfl | rfl <;> assumption
  refine ⟨fun b o e => sf.heap b o (fun q => absurd (Heap.lt_size e) (Nat.not_lt.mpr (q ▸ hab))) (B.base b o e), IsGen.soft B.gen0 sf.heap (ne _ (by simp)), IsGen.soft B.gen1 sf.heap (ne _ (by simp)), IsGen.soft B.gen2 sf.heap (ne _ (by simp)), ?_,
    sf.size ▸ B.g0, sf.size ▸ B.g1, sf.size ▸ B.g2, ?_⟩
  · obtain ⟨o, ho, r⟩ := B.list
    exact ⟨o, sf.heap _ _ (ne _ (by simp)) ho, r⟩
  · obtain ⟨o, ho⟩ := B.top
    exact ⟨o, sf.heap _ _ hTC ho⟩

theorem Bas.lt (K : Con h₀ Bd L0 L1 L2 lS T) (B : Bas h₀ L0 L1 L2 lS T vs s) : ∀ b, Bd b → b < s.heap.objs.size := fun b hb =>
  let ⟨_, ho⟩ := B.top
  Nat.lt_of_le_of_lt (K.top b hb) (Heap.lt_size ho)
end
end Mine

namespace Mine
section
variable {prog : Program} {w : World} {s s' : Shared} {h₀ : Heap} {aF lS T : Addr} {Bd : Addr → Prop} {cd : Value} {outer : List Env} {mg mb : Str → Option Value} {L L0 L1 L2 : Lv} {N N' : Nat} {vs : List Value} {xs : List Int}
  {Cs Cs' : List Addr} {Gs Gs' : List Nat} {o : OutK} {J J' : Shared → Prop} {it : Value} {C : Addr} {g : Nat} {σ : S0} {src : Value}

theorem Kept.lift (k : Kept Bd Cs Gs s s') (hC : ∀ b ∈ Cs, b ∈ Cs') (hG : ∀ i ∈ Gs, i ∈ Gs') (hb : ∀ (i : Nat) (x : GenState), s.gens[i]? = some x → x.bare = true) : Kept Bd Cs' Gs' s s' :=
  ⟨fun b o h1 h2 e => k.heap b o h1 (fun q => h2 (hC b q)) e, k.size, fun i hi => k.gens i fun q => hi (hG i q), k.os, fun i _ x hx => by
    by_cases q : i ∈ Gs
    · exact k.bare i q x hx
    · exact hb i x ((k.gens i q) ▸ hx)⟩

theorem OutS.lift {e : Addr} (k : OutS Bd Cs Gs s outer e s') (hC : ∀ b ∈ Cs, b ∈ Cs') (hG : ∀ i ∈ Gs, i ∈ Gs') (hb : ∀ (i : Nat) (x : GenState), s.gens[i]? = some x → x.bare = true) : OutS Bd Cs' Gs' s outer e s' := by
  obtain ⟨B, t, tk, hB, r⟩ := k.fly
  exact ⟨⟨B, t, tk, fun b o h1 h2 h3 h4 => hB b o h1 h2 (fun q => h3 (hC b q)) h4, r⟩, fun b o h1 h2 h3 h4 => k.slots b o h1 h2 (fun q => h3 (hC b q)) h4, k.size, fun i hi => k.gens i fun q => hi (hG i q), k.os, fun i _ x hx => by
    by_cases q : i ∈ Gs
    · exact k.bare i q x hx
    · exact hb i x ((k.gens i q) ▸ hx)⟩

theorem Ctr.lift (h : Ctr prog w it outer N Bd Cs Gs s o J) (hN : N ≤ N') (hC : ∀ b ∈ Cs, b ∈ Cs') (hG : ∀ i ∈ Gs, i ∈ Gs') (hb : ∀ (i : Nat) (x : GenState), s.gens[i]? = some x → x.bare = true)
    (hJ : o ≠ .err → ∀ s', Kept Bd Cs Gs s s' → J s' → J' s') (hJe : o = .err → ∀ s' e, OutS Bd Cs Gs s outer e s' → J s' → J' s') : Ctr prog w it outer N' Bd Cs' Gs' s o J' := by
  intro A Q E hA ask
  refine h A Q E (hA.less hN) ?_
  cases o with
  | val v => exact fun s' k j => ask s' (k.lift hC hG hb) (hJ (fun q => by cases q) s' k j)
  | stop => exact fun s' k j => ask s' (k.lift hC hG hb) (hJ (fun q => by cases q) s' k j)
  | err => exact fun s' e k j => ask s' e (k.lift hC hG hb) (hJe rfl s' e k j)

theorem St0.soft (h : St0 prog w aF cd L lS Bd vs σ s) (sf : Soft C g s s') (hC : L.C ≠ C) (hg : L.g ≠ g) (hB : Bd C) : St0 prog w aF cd L lS Bd vs σ s' := by
  have ns : ∀ {m}, s.heap.Ns L.C m → s'.heap.Ns L.C m := fun ⟨o, es, ep, ho, r⟩ => ⟨o, es, ep, sf.heap _ _ hC ho, r⟩
  have gn := sf.gens L.g hg
  cases σ with
  | run i =>
    rcases h with ⟨h1, h2, m, h3, h4⟩ | ⟨I, gs, m, last, h1, h2, h3, h4, h5, h6, h7, h8⟩
    · exact .inl ⟨h1, gn.trans h2, m, ns h3, h4⟩
    · obtain ⟨oI, hoI, r⟩ := h7
      exact .inr ⟨I, gs, m, last, h1, h2, gn.trans h3, h4, ns h5, h6, ⟨oI, sf.heap _ _ (fun q => h8 (q ▸ hB)) hoI, r⟩, h8⟩
  | rep v =>
    obtain ⟨gs, m, h1, h2, h3, h4⟩ := h
    exact ⟨gs, m, gn.trans h1, h2, ns h3, h4⟩
  | done => exact gn.trans h

theorem Alive.to (h : Alive prog w aF cd L src s) (gn : s'.gens[L.g]? = s.gens[L.g]?) (ns : ∀ m, s.heap.Ns L.C m → s'.heap.Ns L.C m) : Alive prog w aF cd L src s' := by
  rcases h with ⟨h1, m, h2, h3⟩ | ⟨gs, last, m, h1, h2, h3, h4⟩
  · exact .inl ⟨gn.trans h1, m, ns m h2, h3⟩
  · exact .inr ⟨gs, last, m, gn.trans h1, h2, ns m h3, h4⟩
theorem Alive.kept (h : Alive prog w aF cd L src s) (k : Kept Bd Cs Gs s s') (hb : Bd L.C) (hC : L.C ∉ Cs) (hg : L.g ∉ Gs) : Alive prog w aF cd L src s' :=
  h.to (k.gens _ hg) fun _ hn => k.frm hn hb hC
theorem Alive.out {e : Addr} (h : Alive prog w aF cd L src s) (k : OutS Bd Cs Gs s outer e s') (hb : Bd L.C) (hC : L.C ∉ Cs) (hg : L.g ∉ Gs) : Alive prog w aF cd L src s' :=
  h.to (k.gens _ hg) fun _ hn => by
    obtain ⟨o, es, ep, ho, hd, r⟩ := hn
    obtain ⟨sl, h1⟩ := k.slots _ _ ho hb hC fun vs q => by rw [hd] at q; cases q
    exact ⟨_, es, ep, h1, hd, r⟩
theorem Alive.soft (h : Alive prog w aF cd L src s) (sf : Soft C g s s') (hC : L.C ≠ C) (hg : L.g ≠ g) : Alive prog w aF cd L src s' :=
  h.to (sf.gens _ hg) fun _ ⟨o, es, ep, ho, r⟩ => ⟨o, es, ep, sf.heap _ _ hC ho, r⟩

theorem nx_err (h : outS vs xs σ = .err) : nxS vs xs σ = .done := by
  cases σ with
  | run i =>
    simp only [outS, nxS, out0, nx0] at h ⊢
    cases hx : xs[i]? with
    | none => rfl
    | some n =>
      simp only [hx] at h ⊢
      by_cases h1 : n = 127
      · simp [h1]
      · by_cases h2 : n = 0
        · by_cases h3 : i = 0
          · simp [h2, h3]
          · simp [h2, h3] at h
        · simp [h1, h2] at h
  | rep v => simp [outS] at h
  | done => rfl
theorem nx_stop (h : outS vs xs σ = .stop) : nxS vs xs σ = .done := by
  cases σ with
  | run i =>
    simp only [outS, nxS, out0, nx0] at h ⊢
    cases hx : xs[i]? with
    | none => rfl
    | some n =>
      simp only [hx] at h ⊢
      by_cases h1 : n = 127
      · simp [h1]
      · by_cases h2 : n = 0
        · by_cases h3 : i = 0
          · simp [h2, h3]
          · simp [h2, h3] at h
        · simp [h1, h2] at h
  | rep v => simp [outS] at h
  | done => rfl

/-- whether a generator over a generator has ended -/
def P1 (prog : Program) (w : World) (aF : Addr) (cd : Value) (L : Lv) (b : Addr) (f : Bool) (s : Shared) : Prop := if f then s.gens[L.g]? = some .finished else Alive prog w aF cd L (.ref b) s

structure Inv (prog : Program) (w : World) (aF : Addr) (cd : Value) (L0 L1 L2 : Lv) (lS : Addr) (Bd : Addr → Prop) (vs : List Value) (σ : S0) (s : Shared) : Prop where
  st : St0 prog w aF cd L0 lS Bd vs σ s
  p : ∃ f1 f2, P1 prog w aF cd L1 L0.a f1 s ∧ P1 prog w aF cd L2 L1.a f2 s ∧ ((f1 = false ∧ f2 = false) ∨ σ = .done)
  bare : ∀ (i : Nat) (x : GenState), s.gens[i]? = some x → x.bare = true

theorem ask1 (K : Con h₀ Bd L0 L1 L2 lS T) (G : Glo h₀ mg mb) (B : Bas h₀ L0 L1 L2 lS T vs s) (fo : FramesOn outer s.heap) (fr : FrOK h₀ Bd [L0.C, L1.C, L0.a, L1.a] outer) (hI : IntsAre vs xs)
    (hv : ∀ v, outS vs xs σ = .val v → ∃ n t, v = .int n t ∧ n ≠ 127 ∧ n ≠ 0) (h0 : St0 prog w aF cd L0 lS Bd vs σ s) (al : Alive prog w aF cd L1 (.ref L0.a) s) :
    Ctr prog w (.ref L1.a) outer (N + 6) Bd [L1.C, L0.C] [L1.g, L0.g] s (outS vs xs σ) (fun s' => St0 prog w aF cd L0 lS Bd vs (nxS vs xs σ) s' ∧
      (∀ v, outS vs xs σ = .val v → Alive prog w aF cd L1 (.ref L0.a) s') ∧ ((∀ v, outS vs xs σ ≠ .val v) → s'.gens[L1.g]? = some .finished)) := by
  have nd := K.nd
  have gd := K.gd
  simp only [List.nodup_cons, List.mem_cons, List.not_mem_nil, not_or, or_false] at nd gd
  have st := K.stat1 B fo (fun b hb => ⟨(fr b hb).1, (fr b hb).2.1, fun q => (fr b hb).2.2 (by simp only [List.mem_cons, List.not_mem_nil, or_false] at q ⊢; rcases q with q | q | q <;> simp [q])⟩)
  refine lv_alive (N := N + 2) G st B.g1 al B.gen0 (Ne.symm nd.2.1.2.1) hv (fun s₁ m₁ sf hn => ?_) (fun s₁ s₂ j sf => j.soft sf nd.1.1 gd.1.1 K.bC1) (fun he s₁ s₂ j hg => ?_)
  · have B' := B.soft K sf (by simp)
    have fo' : FramesOn (gEnv L1.C aF cd :: outer) s₁.heap := (fo.keeps fun b hb o e => sf.heap b o (fun q => (fr b hb).2.2 (by simp [q])) e).cons (by show ScopeKind.function ≠ .module; decide) rfl hn
    have fr' : FrOK h₀ Bd [L0.C, L0.a] (gEnv L1.C aF cd :: outer) := FrOK.cons fr rfl K.ab1 K.bC1 (by intro b hb; simp only [List.mem_cons, List.not_mem_nil, or_false] at hb ⊢; rcases hb with q | q <;> simp [q]) (by
      simp only [List.mem_cons, List.not_mem_nil, or_false, not_or]; exact ⟨Ne.symm nd.1.1, nd.2.1.2.1⟩)
    exact l0_ctr G (K.stat0 B' fo' fr') B'.list hI K.blS (Ne.symm nd.1.2.2.2.2.2) B'.g0 (B'.lt K) σ (h0.soft sf nd.1.1 gd.1.1 K.bC1)
  · rw [nx_err he] at j ⊢
    exact (hg _ gd.1.1).trans j

theorem P1.kept {b : Addr} {f : Bool} (h : P1 prog w aF cd L b f s) (k : Kept Bd Cs Gs s s') (hb : Bd L.C) (hC : L.C ∉ Cs) (hg : L.g ∉ Gs) : P1 prog w aF cd L b f s' := by
  cases f with
  | true => exact (k.gens _ hg).trans h
  | false => exact Alive.kept h k hb hC hg
theorem P1.out {b : Addr} {f : Bool} {e : Addr} (h : P1 prog w aF cd L b f s) (k : OutS Bd Cs Gs s outer e s') (hb : Bd L.C) (hC : L.C ∉ Cs) (hg : L.g ∉ Gs) : P1 prog w aF cd L b f s' := by
  cases f with
  | true => exact (k.gens _ hg).trans h
  | false => exact Alive.out h k hb hC hg
theorem P1.ext {b : Addr} {f : Bool} {h' : Heap} (h : P1 prog w aF cd L b f s) (hk : ∀ b o, s.heap.get? b = some o → h'.get? b = some o) : P1 prog w aF cd L b f { s with heap := h' } := by
  cases f with
  | true => exact h
  | false => exact Alive.to h rfl fun m ⟨o, es, ep, ho, r⟩ => ⟨o, es, ep, hk _ _ ho, r⟩

theorem Kept.allBare (k : Kept Bd Cs Gs s s') (hb : ∀ (i : Nat) (x : GenState), s.gens[i]? = some x → x.bare = true) : ∀ (i : Nat) (x : GenState), s'.gens[i]? = some x → x.bare = true := fun i x hx => by
  by_cases q : i ∈ Gs
  · exact k.bare i q x hx
  · exact hb i x ((k.gens i q) ▸ hx)
theorem OutS.allBare {e : Addr} (k : OutS Bd Cs Gs s outer e s') (hb : ∀ (i : Nat) (x : GenState), s.gens[i]? = some x → x.bare = true) : ∀ (i : Nat) (x : GenState), s'.gens[i]? = some x → x.bare = true := fun i x hx => by
  by_cases q : i ∈ Gs
  · exact k.bare i q x hx
  · exact hb i x ((k.gens i q) ▸ hx)

theorem nx_not_val (h : ∀ v, outS vs xs σ ≠ .val v) : nxS vs xs σ = .done := by
  cases ho : outS vs xs σ with
  | val v => exact absurd ho (h v)
  | stop => exact nx_stop ho
  | err => exact nx_err ho

set_option maxHeartbeats 1000000 in
theorem chain_ask (K : Con h₀ Bd L0 L1 L2 lS T) (G : Glo h₀ mg mb) (B : Bas h₀ L0 L1 L2 lS T vs s) (fo : FramesOn outer s.heap) (fr : FrOK h₀ Bd [L0.C, L1.C, L2.C, L0.a, L1.a, L2.a] outer) (hI : IntsAre vs xs)
    (hv : ∀ v, outS vs xs σ = .val v → ∃ n t, v = .int n t ∧ n ≠ 127 ∧ n ≠ 0) (I : Inv prog w aF cd L0 L1 L2 lS Bd vs σ s) {a : Addr} (ha : a = L0.a ∨ a = L1.a ∨ a = L2.a) :
    Ctr prog w (.ref a) outer (N + 8) Bd [L2.C, L1.C, L0.C] [L2.g, L1.g, L0.g] s (outS vs xs σ) (Inv prog w aF cd L0 L1 L2 lS Bd vs (nxS vs xs σ)) := by
  have nd := K.nd
  have gd := K.gd
  simp only [List.nodup_cons, List.mem_cons, List.not_mem_nil, not_or, or_false] at nd gd
  obtain ⟨h0, ⟨f1, f2, p1, p2, hf⟩, hb⟩ := I
  have c1 : L1.C ∉ [L0.C] := fun q => nd.1.1 (List.mem_singleton.mp q).symm
  have c2 : L2.C ∉ [L0.C] := fun q => nd.1.2.1 (List.mem_singleton.mp q).symm
  have g1 : L1.g ∉ [L0.g] := fun q => gd.1.1 (List.mem_singleton.mp q).symm
  have g2 : L2.g ∉ [L0.g] := fun q => gd.1.2 (List.mem_singleton.mp q).symm
  have c2' : L2.C ∉ [L1.C, L0.C] := by simp only [List.mem_cons, List.not_mem_nil, or_false, not_or]; exact ⟨Ne.symm nd.2.1.1, Ne.symm nd.1.2.1⟩
  have g2' : L2.g ∉ [L1.g, L0.g] := by simp only [List.mem_cons, List.not_mem_nil, or_false, not_or]; exact ⟨Ne.symm gd.2.1, Ne.symm gd.1.2⟩
  have fr0 : FrOK h₀ Bd [L0.C, L0.a] outer := fun b q => ⟨(fr b q).1, (fr b q).2.1, fun q' => (fr b q).2.2 (by simp only [List.mem_cons, List.not_mem_nil, or_false] at q' ⊢; rcases q' with q' | q' <;> simp [q'])⟩
  have fr1 : FrOK h₀ Bd [L0.C, L1.C, L0.a, L1.a] outer := fun b q => ⟨(fr b q).1, (fr b q).2.1, fun q' => (fr b q).2.2 (by simp only [List.mem_cons, List.not_mem_nil, or_false] at q' ⊢; rcases q' with q' | q' | q' | q' <;> simp [q'])⟩
  have fr2 : FrOK h₀ Bd [L0.C, L1.C, L2.C, L2.a] outer := fun b q => ⟨(fr b q).1, (fr b q).2.1, fun q' => (fr b q).2.2 (by simp only [List.mem_cons, List.not_mem_nil, or_false] at q' ⊢; rcases q' with q' | q' | q' | q' <;> simp [q'])⟩
  have nxd : σ = .done → nxS vs xs σ = .done := fun q => by rw [q]; rfl
  have endd : ∀ (L : Lv) (hgen : s.heap.IsGen L.a L.g) (hfin : s.gens[L.g]? = some .finished), σ = .done →
      Ctr prog w (.ref L.a) outer (N + 8) Bd [L2.C, L1.C, L0.C] [L2.g, L1.g, L0.g] s (outS vs xs σ) (Inv prog w aF cd L0 L1 L2 lS Bd vs (nxS vs xs σ)) := by
    intro L hgen hfin hd
    subst hd
    refine lv_done (N := N + 7) (J := Inv prog w aF cd L0 L1 L2 lS Bd vs .done) hgen hfin (fun i _ x hx => hb i x hx) fun h' hk => ⟨h0, ⟨f1, f2, p1.ext hk, p2.ext hk, .inr rfl⟩, hb⟩
  rcases ha with rfl | rfl | rfl
  · refine (l0_ctr (N := N) G (K.stat0 B fo fr0) B.list hI K.blS (Ne.symm nd.1.2.2.2.2.2) B.g0 (B.lt K) σ h0).lift (by omega) (by simp) (by simp) hb (fun _ s' k j => ?_) (fun _ s' e k j => ?_)
    · exact ⟨j, ⟨f1, f2, p1.kept k K.bC1 c1 g1, p2.kept k K.bC2 c2 g2, hf.imp id nxd⟩, k.allBare hb⟩
    · exact ⟨j, ⟨f1, f2, p1.out k K.bC1 c1 g1, p2.out k K.bC2 c2 g2, hf.imp id nxd⟩, k.allBare hb⟩
  · cases f1 with
    | true => exact endd L1 B.gen1 p1 (hf.resolve_left fun q => by cases q.1)
    | false =>
      refine (ask1 (N := N) K G B fo fr1 hI hv h0 p1).lift (by omega) (by simp) (by simp) hb (fun _ s' k j => ?_) (fun he s' e k j => ?_)
      · obtain ⟨j1, j2, j3⟩ := j
        cases ho : outS vs xs σ with
        | val v => exact ⟨j1, ⟨false, f2, j2 v ho, p2.kept k K.bC2 c2' g2', hf.imp (fun q => q) nxd⟩, k.allBare hb⟩
        | stop => exact ⟨j1, ⟨true, f2, j3 (fun v => by rw [ho]; simp), p2.kept k K.bC2 c2' g2', .inr (nx_stop ho)⟩, k.allBare hb⟩
        | err => exact ⟨j1, ⟨true, f2, j3 (fun v => by rw [ho]; simp), p2.kept k K.bC2 c2' g2', .inr (nx_err ho)⟩, k.allBare hb⟩
      · obtain ⟨j1, j2, j3⟩ := j
        exact ⟨j1, ⟨true, f2, j3 (fun v => by rw [he]; simp), p2.out k K.bC2 c2' g2', .inr (nx_err he)⟩, k.allBare hb⟩
  · cases f2 with
    | true => exact endd L2 B.gen2 p2 (hf.resolve_left fun q => by cases q.2)
    | false =>
      have fo' : ∀ {s₁ : Shared} {m₁}, Soft L2.C L2.g s s₁ → s₁.heap.Ns L2.C m₁ → FramesOn (gEnv L2.C aF cd :: outer) s₁.heap := fun sf hn =>
        (fo.keeps fun b hb o e => sf.heap b o (fun q => (fr b hb).2.2 (by simp [q])) e).cons (by show ScopeKind.function ≠ .module; decide) rfl hn
      have fr' : FrOK h₀ Bd [L0.C, L1.C, L0.a, L1.a] (gEnv L2.C aF cd :: outer) := FrOK.cons fr1 rfl K.ab2 K.bC2 (fun b q => q) (by
        simp only [List.mem_cons, List.not_mem_nil, or_false, not_or]; exact ⟨Ne.symm nd.1.2.1, Ne.symm nd.2.1.1, nd.2.2.1.1, nd.2.2.1.2.1⟩)
      cases f1 with
      | false =>
        refine (lv_alive (N := N + 4) G (K.stat2 B fo fr2) B.g2 p2 B.gen1 (Ne.symm nd.2.2.1.2.1) hv (fun s₁ m₁ sf hn => ask1 (N := N) K G (B.soft K sf (by simp)) (fo' sf hn) fr' hI hv (h0.soft sf nd.1.2.1 gd.1.2 K.bC2) (Alive.soft p1 sf nd.2.1.1 gd.2.1))
          (fun s₁ s₂ j sf => ⟨j.1.soft sf nd.1.2.1 gd.1.2 K.bC2, fun v q => (j.2.1 v q).soft sf nd.2.1.1 gd.2.1, fun q => (sf.gens _ gd.2.1).trans (j.2.2 q)⟩) (fun he s₁ s₂ j hg => ⟨?_, fun v q => (by rw [he] at q; cases q), fun q => (hg _ gd.2.1).trans (j.2.2 q)⟩)).lift (by omega) (by simp) (by simp) hb (fun _ s' k j => ?_) (fun he s' e k j => ?_)
        · have j1 := j.1
          rw [nx_err he] at j1 ⊢
          exact (hg _ gd.1.2).trans j1
        · obtain ⟨⟨j1, j2, j3⟩, j4, j5⟩ := j
          cases ho : outS vs xs σ with
          | val v => exact ⟨j1, ⟨false, false, j2 v ho, j4 v ho, .inl ⟨rfl, rfl⟩⟩, k.allBare hb⟩
          | stop => exact ⟨j1, ⟨true, true, j3 (fun v => by rw [ho]; simp), j5 (fun v => by rw [ho]; simp), .inr (nx_stop ho)⟩, k.allBare hb⟩
          | err => exact ⟨j1, ⟨true, true, j3 (fun v => by rw [ho]; simp), j5 (fun v => by rw [ho]; simp), .inr (nx_err ho)⟩, k.allBare hb⟩
        · obtain ⟨⟨j1, j2, j3⟩, j4, j5⟩ := j
          exact ⟨j1, ⟨true, true, j3 (fun v => by rw [he]; simp), j5 (fun v => by rw [he]; simp), .inr (nx_err he)⟩, k.allBare hb⟩
      | true =>
        have hd : σ = .done := hf.resolve_left fun q => by cases q.1
        subst hd
        refine (lv_alive (N := N + 4) (o := .stop) (J := fun s' => St0 prog w aF cd L0 lS Bd vs .done s' ∧ s'.gens[L1.g]? = some .finished) G (K.stat2 B fo fr2) B.g2 p2 B.gen1 (Ne.symm nd.2.2.1.2.1) (fun v q => by cases q) (fun s₁ m₁ sf hn => ?_)
          (fun s₁ s₂ j sf => ⟨(sf.gens _ gd.1.2).trans j.1, (sf.gens _ gd.2.1).trans j.2⟩) (fun he => by cases he)).lift (by omega) (by simp) (by simp) hb (fun _ s' k j => ?_) (fun he => by cases he)
        · refine lv_done (N := N + 5) (B.soft K sf (by simp)).gen1 ((sf.gens _ gd.2.1).trans p1) (fun i hi x hx => ?_) fun h' hk => ⟨(sf.gens _ gd.1.2).trans h0, (sf.gens _ gd.2.1).trans p1⟩
          have hne : i ≠ L2.g := fun q => g2' (q ▸ hi)
          exact hb i x ((sf.gens i hne) ▸ hx)
        · exact ⟨j.1.1, ⟨true, true, j.1.2, j.2.2 (fun v q => by cases q), .inr rfl⟩, k.allBare hb⟩
end
end Mine

namespace Mine
def aBody : List Stmt := match PySem.Challenge.pw_ko0101_01.main.body with
  | [_, _, _, _, .FunctionDef _ _ b _ _ _ _ _ _ _, _] => b
  | _ => []
def aScope : Scope := match PySem.Challenge.pw_ko0101_01.main.body with
  | [_, _, _, _, .FunctionDef _ _ _ _ _ _ sc _ _ _, _] => sc
  | _ => { kind := .function, names := [], isGenerator := false, isCoroutine := false, more := [] }
def aParams : Arguments := match PySem.Challenge.pw_ko0101_01.main.body with
  | [_, _, _, _, .FunctionDef _ a _ _ _ _ _ _ _ _, _] => a
  | _ => { posonlyargs := [], args := [], vararg := none, kwonlyargs := [], kw_defaults := [], kwarg := none, defaults := [] }
abbrev aName : Str := Str.ofString "_law_ask"
abbrev aEnv (L a : Addr) (cd : Value) : Env := envOf aName aScope L a cd

/-- what stands behind a call of _law_ask as it stood ahead of it -/
structure Aft (Bd : Addr → Prop) (Cs : List Addr) (Gs : List Nat) (outer : List Env) (s s' : Shared) : Prop where
  heap : ∀ b o, Bd b → b ∉ Cs → b ∉ outer.filterMap (·.frame) → s.heap.get? b = some o → s'.heap.get? b = some o
  slots : ∀ b o, s.heap.get? b = some o → Bd b → b ∉ Cs → (∀ vs, o.data ≠ .fields vs) → ∃ sl, s'.heap.get? b = some { o with slots := sl }
  size : s'.gens.size = s.gens.size
  gens : ∀ i, i ∉ Gs → s'.gens[i]? = s.gens[i]?
  os : s'.os = s.os

/-- all but one frame as it was, up to slots; the generators as they were -/
structure Slo (La : Addr) (s s' : Shared) : Prop where
  slots : ∀ b o, b ≠ La → s.heap.get? b = some o → (∀ vs, o.data ≠ .fields vs) → ∃ sl, s'.heap.get? b = some { o with slots := sl }
  gens : s'.gens = s.gens

section
variable {prog : Program} {w : World} {A : Around} {s : Shared} {h₀ : Heap} {fA a : Addr} {g : Nat} {Bd : Addr → Prop} {cd pm doc : Value} {oA : Obj} {outer : List Env} {mg mb : Str → Option Value} {Cs : List Addr} {Gs : List Nat} {o : OutK} {J J' : Shared → Prop}
  {R : Result → Shared → Prop}

theorem reads_walk : (fun x => ([(Str.ofString "walk", Value.ref a)] : List (Str × Value)).reverse.lookup x) (Str.ofString "walk") = some (.ref a) := by
  show List.lookup _ _ = _
  simp

set_option maxRecDepth 100000 in
set_option maxHeartbeats 4000000 in
theorem ask_call {N : Nat} (G : Glo h₀ mg mb) (hA : AOk A outer (N + 3)) (hb0 : ∀ b o, h₀.get? b = some o → s.heap.get? b = some o) (hlow : ∀ b, b < h₀.objs.size → Bd b) (hnl : h₀.NoLimit) (hCs : ∀ c ∈ Cs, h₀.objs.size ≤ c) (hsz : h₀.objs.size ≤ s.heap.objs.size)
    (fr : ∀ b ∈ outer.filterMap (·.frame), h₀.objs.size ≤ b ∧ b < s.heap.objs.size)
    (hoA : s.heap.get? fA = some oA) (hdA : oA.data = .func (Calls.docDef aName aParams aBody aScope pm cd doc)) (hcd : s.heap.CodeRec cd aName)
    (hg : s.heap.IsGen a g) (hLa : Bd s.heap.objs.size) (hLC : s.heap.objs.size ∉ Cs)
    (hc : ∀ h₁ tk m, (∀ b o, s.heap.get? b = some o → h₁.get? b = some o) → h₁.Ns s.heap.objs.size m → Ctr prog w (.ref a) (aEnv s.heap.objs.size fA cd :: outer) N Bd Cs Gs { s with heap := h₁, toks := tk } o J)
    (hJ : o ≠ .err → ∀ s₁ s₂ : Shared, J s₁ → (∀ b o, b ≠ s.heap.objs.size → s₁.heap.get? b = some o → s₂.heap.get? b = some o) → s₂.gens = s₁.gens → J' s₂)
    (hJe : o = .err → ∀ s₁ s₂ : Shared, J s₁ → Slo s.heap.objs.size s₁ s₂ → J' s₂)
    (hval : ∀ v, o = .val v → ∀ s' D, Aft Bd Cs Gs outer s s' → J' s' → s'.heap.IsList D #[v] → s.heap.get? D = none → R (.ok (.ret (.ref D))) s')
    (hstop : o = .stop → ∀ s' D, Aft Bd Cs Gs outer s s' → J' s' → s'.heap.IsList D #[] → s.heap.get? D = none → R (.ok (.ret (.ref D))) s')
    (herr : o = .err → ∀ s' D tk, Aft Bd Cs Gs outer s s' → J' s' → s'.heap.TupAt D [.str (Str.ofString "invalid grouping") tk] → R (.ok (.ret (.ref D))) s') :
    codeAny (model prog w) A (.call (.ref fA) ⟨[.ref a], []⟩) R s := by
  have hroom : A.depth < recursionLimit := by have := hA.depth; omega
  refine call_plain (binds := [(Str.ofString "walk", .ref a)]) hroom hoA hdA (hnl.keeps hb0) hcd (by rfl) (by intro x hx; cases hx with | head => rfl | tail _ hx => cases hx) (fun h₁ F₁ => ?_)
  have nwA : (aEnv s.heap.objs.size fA cd).frame = some s.heap.objs.size := rfl
  have hA' : AOk (A.deeper (aEnv s.heap.objs.size fA cd)) (aEnv s.heap.objs.size fA cd :: outer) N :=
    ⟨hA.handled, Around.frames_deeper hA.frames, by have := hA.depth; show A.depth + 1 + N < _; omega, by have := hA.units; show A.units + 3 + 20 * N < _; omega⟩
  have newer : ∀ {b o}, s.heap.get? b = some o → b ≠ s.heap.objs.size := fun e => Nat.ne_of_lt (Heap.lt_size e)
  have hg₁ : h₁.IsGen a g := let ⟨ob, nm, qn, ho, r⟩ := hg; ⟨ob, nm, qn, F₁.keep _ _ ho, r⟩
  refine wpAny_execs_cons (wpAny_Try_except ?_)
  refine wpAny_execs_cons (wpAny_For (ld F₁ reads_walk (wpAny_pyIter_gen (s := { s with heap := h₁, toks := s.toks + 1 }) hg₁ ?_)))
  refine codeAny_forLoop (fun _ s' => s' = { s with heap := h₁, toks := s.toks + 1 }) (fun n s' hs' => ?_) 0 rfl
  subst hs'
  refine hc h₁ _ _ F₁.keep F₁.ns _ _ _ hA' ?_
  have low0 : ∀ {b o}, h₀.get? b = some o → Bd b ∧ b ∉ Cs := fun e => ⟨hlow _ (Heap.lt_size e), fun q => absurd (hCs _ q) (Nat.not_le.mpr (Heap.lt_size e))⟩
  cases o with
  | val v =>
    intro s' k j
    have ns' := k.frm F₁.ns hLa hLC
    have kp : ∀ b o, b ≠ s.heap.objs.size → Bd b → b ∉ Cs → s.heap.get? b = some o → s'.heap.get? b = some o := fun b o _ h1 h2 e => k.heap b o h1 h2 (F₁.keep b o e)
    refine wpAny_assign_Name (wpAny_storeName_local (env := aEnv s.heap.objs.size fA cd) (name := Str.ofString "size") rfl ns' (fun h₂ hn₂ hs₂ => ?_) rfl)
    have F₂ : Fr h₀ s.heap.objs.size h₂ _ := ⟨hn₂, fun b o e => (hs₂.2 b (newer (hb0 b o e))).trans (kp b o (newer (hb0 b o e)) (low0 e).1 (low0 e).2 (hb0 b o e)), hsz⟩
    refine wpAny_execs_cons (wpAny_Return_some (List_ (spliced_more (ld F₂ (if_pos rfl) (spliced_none (wpAny_newObj_type ?_ (by show 1 ≤ sizeLine; rw [sizeLine_eq]; omega)))))))
    have kf : ∀ b o, Bd b → b ∉ Cs → s.heap.get? b = some o → (h₂.push { cls := .type "list", data := .seq [v].toArray }).get? b = some o := fun b o h1 h2 e =>
      Heap.get?_push_of_some _ ((hs₂.2 b (newer e)).trans (kp b o (newer e) h1 h2 e))
    refine hval v rfl _ _ ⟨fun b o h1 h2 _ e => kf b o h1 h2 e, fun b o e h1 h2 _ => ⟨o.slots, kf b o h1 h2 e⟩, k.size, fun i hi => k.gens i hi, k.os⟩ (hJ (by simp) s' _ j (fun b o hb e => Heap.get?_push_of_some _ ((hs₂.2 b hb).trans e)) rfl)
      ⟨_, Heap.get?_push_size _ rfl, rfl, _, rfl⟩ (Heap.get?_none_of_le (Nat.le_of_lt hn₂.lt))
  | stop =>
    intro s' k j
    have ns' := k.frm F₁.ns hLa hLC
    have kp : ∀ b o, Bd b → b ∉ Cs → s.heap.get? b = some o → s'.heap.get? b = some o := fun b o h1 h2 e => k.heap b o h1 h2 (F₁.keep b o e)
    refine wpAny_execs_nil ?_
    show wpAny _ _ (execs [] _) _ _ _
    refine wpAny_execs_nil (wpAny_execs_nil ?_)
    refine wpAny_execs_cons (wpAny_Return_some (List_ (spliced_none (wpAny_newObj_type ?_ (by show 0 ≤ sizeLine; exact Nat.zero_le _)))))
    have kf : ∀ b o, Bd b → b ∉ Cs → s.heap.get? b = some o → (s'.heap.push { cls := .type "list", data := .seq ([] : List Value).toArray }).get? b = some o := fun b o h1 h2 e =>
      Heap.get?_push_of_some _ (kp b o h1 h2 e)
    refine hstop rfl _ _ ⟨fun b o h1 h2 _ e => kf b o h1 h2 e, fun b o e h1 h2 _ => ⟨o.slots, kf b o h1 h2 e⟩, k.size, fun i hi => k.gens i hi, k.os⟩ (hJ (by simp) s' _ j (fun b o _ e => Heap.get?_push_of_some _ e) rfl)
      ⟨_, Heap.get?_push_size _ rfl, rfl, _, rfl⟩ (Heap.get?_none_of_le (Nat.le_of_lt ns'.lt))
  | err =>
    intro s' e k j
    obtain ⟨B, t, tk, hB, hfl, hBt, htup⟩ := k.fly
    have ns' : ∃ m, s'.heap.Ns s.heap.objs.size m := by
      obtain ⟨oL, es, ep, hoL, hdL, r⟩ := F₁.ns
      obtain ⟨sl, h1⟩ := k.slots _ _ hoL hLa hLC fun vs q => by rw [hdL] at q; cases q
      exact ⟨_, _, es, ep, h1, hdL, r⟩
    obtain ⟨mL, ns'⟩ := ns'
    refine wpAny_looks_onW hA'.frames nwA hfl fun h₂ hh₂ u₂ => ?_
    refine cameBack_held nwA hh₂ fun h₃ hh₃ u₃ => ?_
    refine wpAny_noteFrame_againW (s := { s' with heap := h₃ }) nwA hh₃.2.2.2 ?_
    refine wpAny_landsW (s := { s' with heap := h₃ }) hh₃ fun h₄ hf₄ u₄ => ?_
    have inB : ∀ b o, Bd b → b ∉ Cs → b ∉ outer.filterMap (·.frame) → s.heap.get? b = some o → B.get? b = some o := fun b o h1 h2 h3 q => hB b o (F₁.keep b o q) h1 h2 fun hm => by
      rcases List.mem_cons.mp hm with q' | q'
      · exact newer q q'
      · exact h3 q'
    have b0 : ∀ b o, h₀.get? b = some o → B.get? b = some o := fun b o q => inB b o (low0 q).1 (low0 q).2 (fun hm => absurd (fr b hm).1 (Nat.not_le.mpr (Heap.lt_size q))) (hb0 b o q)
    have F₄ : Fr h₀ s.heap.objs.size h₄ _ := ⟨((u₂.trans u₃).trans u₄).ns ns', fun b o q => hf₄.1 b o (b0 b o q), hsz⟩
    obtain ⟨ob, hob, hobc⟩ := hf₄.there
    refine wpAny_handleBy_builtin_as (X := "ValueError") (T := "ValueError") (b := true) PySem.F.isExc_ValueError PySem.F.notTuple_ValueError (by rw [isSubtype_type]; kernel_rfl)
      (ld_builtin_at (s := { s' with heap := h₄ }) F₄ G.g G.ve G.b G.ve' ⟨rfl, ⟨ob, hob, hobc⟩, ?_⟩)
    refine lands_againW (s := { s' with heap := h₄ }) hf₄ fun h₅ hf₅ u₅ => ?_
    have F₅ : Fr h₀ s.heap.objs.size h₅ _ := ⟨u₅.ns F₄.ns, fun b o q => hf₅.1 b o (b0 b o q), hsz⟩
    refine wpAny_storeName_local (s := { s' with heap := h₅ }) (env := aEnv s.heap.objs.size fA cd) (name := Str.ofString "fault") rfl F₅.ns (fun h₆ hn₆ hs₆ => ?_) rfl
    have F₆ := F₅.set hn₆ hs₆
    obtain ⟨oe, ws, hoe, hoec, hoed, hoe0⟩ := hf₅.first
    have eL : e ≠ s.heap.objs.size := fun q => by
      obtain ⟨oL, es, ep, hoL, hdL, _⟩ := F₅.ns
      rw [← q, hoe] at hoL; cases hoL
      rw [hoed] at hdL; cases hdL
    have hoe₆ : h₆.get? e = some oe := (hs₆.2 e eL).trans hoe
    refine wpAny_execs_cons (wpAny_Return_some (Attribute_name (ld (s := { s' with heap := h₆, toks := s'.toks + 1 }) F₆ (if_pos rfl) (args_attr PySem.F.attr_ValueError hoe₆ hoec hoed hoe0 ?_))))
    refine wpAny_nameGoes (env := aEnv s.heap.objs.size fA cd) rfl hn₆ rfl fun h₇ m₇ hn₇ hs₇ => ?_
    have us : h₁.UpToSlots h₁ := .refl _
    have upAll : ∀ b o, b ≠ s.heap.objs.size → s'.heap.get? b = some o → (∀ vs, o.data ≠ .fields vs) → ∃ sl, h₇.get? b = some { o with slots := sl } := fun b o hb q hn => by
      obtain ⟨sl, h1⟩ := (((u₂.trans u₃).trans u₄).trans u₅) b o q hn
      exact ⟨sl, (hs₇.2 b hb).trans ((hs₆.2 b hb).trans h1)⟩
    have tup₅ : h₅.TupAt t [.str (Str.ofString "invalid grouping") tk] := htup.of_slots (((u₂.trans u₃).trans u₄).trans u₅)
    refine herr rfl _ t tk ⟨fun b o h1 h2 h3 q => (hs₇.2 b (newer q)).trans ((hs₆.2 b (newer q)).trans (hf₅.1 b o (inB b o h1 h2 h3 q))), fun b o q h1 h2 hn => ?_, k.size, fun i hi => k.gens i hi, k.os⟩
      (hJe rfl s' _ j ⟨upAll, rfl⟩) ?_
    · obtain ⟨sl, h3⟩ := k.slots b o (F₁.keep b o q) h1 h2 hn
      obtain ⟨sl', h4⟩ := upAll b _ (newer q) h3 hn
      exact ⟨sl', h4⟩
    · obtain ⟨ot, nt, hot, hotc, hotd⟩ := tup₅
      have tL : t ≠ s.heap.objs.size := fun q => by
        obtain ⟨oL, es, ep, hoL, hdL, _⟩ := F₅.ns
        rw [← q, hot] at hoL; cases hoL
        rw [hotd] at hdL; cases hdL
      exact ⟨ot, nt, (hs₇.2 t tL).trans ((hs₆.2 t tL).trans hot), hotc, hotd⟩
end
end Mine

namespace Mine
def lBody : List Stmt := match PySem.Challenge.pw_ko0101_01.main.body with
  | [_, _, _, _, _, .FunctionDef _ _ b _ _ _ _ _ _ _] => b
  | _ => []
def lScope : Scope := match PySem.Challenge.pw_ko0101_01.main.body with
  | [_, _, _, _, _, .FunctionDef _ _ _ _ _ _ sc _ _ _] => sc
  | _ => { kind := .function, names := [], isGenerator := false, isCoroutine := false, more := [] }
def lLoop : List Stmt := match lBody with
  | [_, _, _, _, _, _, _, _, .For _ _ b _ _, _] => b
  | _ => []
abbrev lEnv (L f : Addr) (cd : Value) : Env := envOfC (Str.ofString "law") lScope L f cd


section
variable {prog : Program} {w : World} {A : Around} {E : Value → Shared → Prop} {s : Shared} {L f lS : Addr} {cd : Value} {m : Str → Option Value} {vs : List Value} {xs : List Int}

theorem ldv {x : Str} {pos : Pos} {v : Value} {Q : Value → Shared → Prop} {M : Model} (hn : s.heap.Ns L m) (hv : m x = some v) (h : Q v s) (hl : (lEnv L f cd).kindOf x = some .local := by rfl) (hd : (x == ("__debug__" : Str)) = false := by decide) :
    wpAny M A (eval (.Name x pos) (lEnv L f cd)) Q E s := wpAny_Name (wpAny_loadName_local (env := lEnv L f cd) rfl hl hn hv h) hd

theorem lds {pos : Pos} {v : Value} {Q : Value → Shared → Prop} {M : Model} (hc : s.heap.IsCell (L + 1) (some v)) (h : Q v s) : wpAny M A (eval (.Name (Str.ofString "sizes") pos) (lEnv L f cd)) Q E s :=
  wpAny_Name (wpAny_loadName_cell (env := lEnv L f cd) (c := L + 1) rfl rfl rfl hc h) (by decide)

theorem execs_one {M : Model} {st : Stmt} {env : Env} {Q : Flow → Shared → Prop} (h : wpAny M A (exec st env) Q E s) : wpAny M A (execs [st] env) Q E s :=
  wpAny_execs_cons (wpAny_mono h (fun f s' hf => by
    cases f with
    | next => exact wpAny_execs_nil hf
    | brk => exact hf
    | cont => exact hf
    | ret v => exact hf) fun _ _ e => e)

/-- all objects stand as they stood -/
abbrev Ext (h h' : Heap) : Prop := ∀ b o, h.get? b = some o → h'.get? b = some o
theorem Ext.ns {h h' : Heap} (k : Ext h h') {C : Addr} {m : Str → Option Value} (x : h.Ns C m) : h'.Ns C m := let ⟨o, es, ep, ho, r⟩ := x; ⟨o, es, ep, k _ _ ho, r⟩
theorem Ext.list {h h' : Heap} (k : Ext h h') {l : Addr} {vs : Array Value} (x : h.IsList l vs) : h'.IsList l vs := let ⟨o, ho, r⟩ := x; ⟨o, k _ _ ho, r⟩

theorem pick1 {st : Nat} (hI : IntsAre vs xs) : IntsAre (slicePick vs.toArray (some (st : Int)) (some ((st : Int) + 1)) none).toList ((xs.drop st).take (min (st + 1) xs.length - st)) := by
  have h := kmk_run (x := (st : Int)) (y := (st : Int) + 1) hI (by omega) (by omega)
  simpa using h

theorem pick1_eq {st : Nat} : decide ((xs.drop st).take (min (st + 1) xs.length - st) = [0]) = decide (xs[st]? = some 0) := by
  by_cases h : st < xs.length
  · have e1 : min (st + 1) xs.length - st = 1 := by omega
    rw [e1, List.drop_eq_getElem_cons h, List.getElem?_eq_getElem h]
    simp only [List.take_succ_cons, List.take_zero, List.cons.injEq, and_true, Option.some.injEq]
  · have e1 : min (st + 1) xs.length - st = 0 := by omega
    rw [e1]
    simp only [List.take_zero, List.nil_eq, reduceCtorEq, decide_false]
    rw [List.getElem?_eq_none (by omega)]
    rfl

set_option maxRecDepth 100000 in
theorem slice_test {p1 p2 p3 p4 p5 p6 p7 p8 p9 p10 : Pos} {st : Nat} {ts : Tok} {whole : Sem Value} {Q : Bool → Shared → Prop} (hn : s.heap.Ns L m) (hst : m (Str.ofString "stop") = some (.int st ts)) (hc : s.heap.IsCell (L + 1) (some (.ref lS)))
    (hl : s.heap.IsList lS vs.toArray) (hI : IntsAre vs xs) (hlen : xs.length ≤ sizeLine) (hu : A.units + 64 < cLine)
    (h : ∀ h' tk, Ext s.heap h' → Q (decide (xs[st]? = some 0)) { s with heap := h', toks := tk }) :
    wpAny (model prog w) A (isTrue (.Compare (.Subscript (.Name (Str.ofString "sizes") p1) (.Slice (some (.Name (Str.ofString "stop") p2)) (some (.BinOp (.Name (Str.ofString "stop") p3) .Add (.Constant (.int 1) 0 p4) p5)) none p6) p7)
      [.Eq] [.List [.Constant (.int 0) 0 p8] p9] p10) (lEnv L f cd) whole) Q E s := by
  have hz : vs.toArray.size ≤ sizeLine := by rw [List.size_toArray, hI.length]; exact hlen
  refine wpAny_isTrue_Compare1 (Subscript_ (lds hc (wpAny_Slice (evalPart_some_step (ldv hn hst (evalPart_some_step (wpAny_BinOp (ldv hn hst (wpAny_Constant_int (add_int (evalPart_none_step ?_))))))))))) (by rfl)
  refine subscriptTail_ops (T := "list") ((Heap.IsList.typeIs (s := { s with heap := s.heap.push _, toks := s.toks + 1 + 1 }) (hl.push _))) list_getitem_lookup
    (wpAny_getItem_list_slice (hl.push _) (Heap.IsSliceOf.new ..) (.int _ _) (.int _ _) .none (by simp) ?_ hz) (by with_unfolding_all rfl) (by intro _; with_unfolding_all rfl)
  refine List_ (spliced_more (wpAny_Constant_int (spliced_none (wpAny_newObj_type ?_ (by show 1 ≤ sizeLine; rw [sizeLine_eq]; omega)))))
  have hp := pick1 (st := st) hI
  refine eq_intsK (vs := (slicePick vs.toArray (some (st : Int)) (some ((st : Int) + 1)) none).toList) (us := [.int 0 _]) (ms := [0]) ⟨_, Heap.get?_push_of_some _ (Heap.get?_push_size _ rfl), rfl, 0, by rw [Array.toArray_toList]⟩ hp ⟨_, Heap.get?_push_size _ rfl, rfl, _, rfl⟩ (.cons 0 _ .nil) hu (wpAny_truthy_bool ?_)
  rw [pick1_eq]
  exact h _ _ fun b o e => Heap.get?_push_of_some _ (Heap.get?_push_of_some _ (Heap.get?_push_of_some _ e))

/-- what the law asks at its k-th step -/
def dueK (vs : List Value) (xs : List Int) (st k : Nat) : OutK :=
  if k < st then .val (vs.getD k .none) else if xs[st]? = some 0 ∧ 0 < st then .val (vs.getD (st - 1) .none) else if xs[st]? = some 0 ∧ k = 0 then .err else .stop
/-- the object that says so -/
def DueAt (h : Heap) (D : Addr) : OutK → Prop
  | .val v => h.IsList D #[v]
  | .stop => h.IsList D #[]
  | .err => ∃ tk, h.TupAt D [.str (Str.ofString "invalid grouping") tk]

theorem DueAt.keeps {h h' : Heap} {D : Addr} {o : OutK} (x : DueAt h D o) (hk : ∀ ob, h.get? D = some ob → h'.get? D = some ob) : DueAt h' D o := by
  cases o with
  | val v => obtain ⟨ob, ho, r⟩ := x; exact ⟨ob, hk _ ho, r⟩
  | stop => obtain ⟨ob, ho, r⟩ := x; exact ⟨ob, hk _ ho, r⟩
  | err => obtain ⟨tk, ob, n, ho, r⟩ := x; exact ⟨tk, ob, n, hk _ ho, r⟩

theorem getD_of {k : Nat} (hI : IntsAre vs xs) (h : k < xs.length) : vs[k]? = some (vs.getD k .none) := by
  have : k < vs.length := by rw [hI.length]; exact h
  simp [List.getD, List.getElem?_eq_getElem this]

set_option maxRecDepth 100000 in
set_option maxHeartbeats 4000000 in
theorem due_ok {st k : Nat} {ts tk : Tok} {Q : Flow → Shared → Prop} (hn : s.heap.Ns L m) (hk : m (Str.ofString "k") = some (.int k tk)) (hst : m (Str.ofString "stop") = some (.int st ts)) (hc : s.heap.IsCell (L + 1) (some (.ref lS)))
    (hl : s.heap.IsList lS vs.toArray) (hlL : lS ≠ L) (hI : IntsAre vs xs) (hlen : xs.length ≤ 63) (hsl : st ≤ xs.length) (hu : A.units + 64 < cLine)
    (hq : ∀ D m' h' tk, h'.Ns L m' → (∀ x, x ≠ Str.ofString "due" → m' x = m x) → m' (Str.ofString "due") = some (.ref D) → DueAt h' D (dueK vs xs st k) → D ≠ L → s.heap.objs.size ≤ D →
      (∀ b o, b ≠ L → s.heap.get? b = some o → h'.get? b = some o) → Q .next { s with heap := h', toks := tk }) :
    wpAny (model prog w) A (execs (lLoop.take 2) (lEnv L f cd)) Q E s := by
  have hsz : xs.length ≤ sizeLine := by rw [sizeLine_eq]; omega
  refine wpAny_execs_cons (wpAny_Assign_Name (List_ (spliced_none (wpAny_newObj_type (wpAny_storeName_local (env := lEnv L f cd) (name := Str.ofString "due") rfl (hn.push _) (fun h₁ hn₁ hs₁ => ?_) rfl) (Nat.zero_le _)))))
  have hLs := hn.lt
  have k₁ : ∀ b o, b ≠ L → s.heap.get? b = some o → h₁.get? b = some o := fun b o hb e => (hs₁.2 b hb).trans (Heap.get?_push_of_some _ e)
  have hD0 : h₁.IsList s.heap.objs.size #[] := ⟨_, (hs₁.2 _ (Nat.ne_of_gt hLs)).trans (Heap.get?_push_size _ rfl), rfl, 0, rfl⟩
  have hl₁ : h₁.IsList lS vs.toArray := let ⟨o, ho, r⟩ := hl; ⟨o, k₁ _ _ hlL ho, r⟩
  have hc₁ : h₁.IsCell (L + 1) (some (.ref lS)) := let ⟨o, ho, r⟩ := hc; ⟨o, k₁ _ _ (Nat.succ_ne_self L) ho, r⟩
  have hk₁ : (fun x => if x = Str.ofString "due" then some (Value.ref s.heap.objs.size) else m x) (Str.ofString "k") = some (.int k tk) := (if_neg (by decide)).trans hk
  have hst₁ : (fun x => if x = Str.ofString "due" then some (Value.ref s.heap.objs.size) else m x) (Str.ofString "stop") = some (.int st ts) := (if_neg (by decide)).trans hst
  -- an item of sizes, listed and stored
  have put : ∀ {j : Nat} {tj : Tok} {h₂ : Heap} {tk₂ : Nat} {value slice : PySem.Expr} {hs : subscripted slice false (.ref lS) (.int j tj) = operate [.ref lS, .int j tj] (getItem (.ref lS) (.int j tj))}, Ext h₁ h₂ → j < xs.length → .val (vs.getD j .none) = dueK vs xs st k →
      ∀ {vv : Value → Shared → Prop}, (∀ s', s' = { s with heap := h₂, toks := tk₂ } → vv (vs.getD j .none) s') → wpAny (model prog w) A (subscriptTail value slice (.ref lS) (.int j tj)) vv E { s with heap := h₂, toks := tk₂ } := by
    intro j tj h₂ tk₂ value slice hs hx hj hd vv hvv
    have hj' : ((j : Nat) : Int).toNat = j := by omega
    exact tail_any (Heap.IsList.typeIs (s := { s with heap := h₂, toks := tk₂ }) (hx.list hl₁)) list_getitem_lookup (wpAny_getItem_list (s := { s with heap := h₂, toks := tk₂ }) (hx.list hl₁) (by omega) (by omega) (by rw [hj']; simpa using getD_of hI hj) (hvv _ rfl)) hs
  have fin : ∀ {h₂ : Heap} {tk₂ : Nat} {v : Value}, Ext h₁ h₂ → .val v = dueK vs xs st k → ∀ h₃, h₃.Ns L (fun x => if x = Str.ofString "due" then some (.ref h₂.objs.size) else if x = Str.ofString "due" then some (Value.ref s.heap.objs.size) else m x) →
      Heap.SameBut L (h₂.push { cls := .type "list", data := .seq #[v] }) h₃ → Q .next { s with heap := h₃, toks := tk₂ } := by
    intro h₂ tk₂ v hx hd h₃ hn₃ hs₃
    have hlt : L < h₂.objs.size := (hx.ns hn₁).lt
    refine hq h₂.objs.size _ h₃ tk₂ hn₃ (fun x hx => by simp [hx]) (if_pos rfl) ?_ (Nat.ne_of_gt hlt) ?_ fun b o hb e => (hs₃.2 b hb).trans (Heap.get?_push_of_some _ (hx b o (k₁ b o hb e)))
    · rw [← hd]
      exact ⟨_, (hs₃.2 _ (Nat.ne_of_gt hlt)).trans (Heap.get?_push_size _ rfl), rfl, 0, rfl⟩
    · obtain ⟨o, ho, _⟩ := hx.list hD0
      exact Nat.le_of_lt (Heap.lt_size ho)
  show wpAny _ _ _ _ _ _
  refine execs_one (wpAny_If (wpAny_isTrue_Compare1 (ldv hn₁ hk₁ (ldv hn₁ hst₁ (lt_int (wpAny_truthy_bool (split_dec (fun hlt => ?_) fun hge => ?_))))) (by rfl)))
  · have hlt' : k < st := by omega
    refine execs_one (wpAny_Assign_Name (List_ (spliced_more (Subscript_ (lds hc₁ (ldv hn₁ hk₁ (put (hs := by with_unfolding_all rfl) (fun _ _ e => e) (by omega) (by simp [dueK, hlt']) ?_)))))))
    rintro _ rfl
    refine spliced_none (wpAny_newObj_type (wpAny_storeName_local (env := lEnv L f cd) (name := Str.ofString "due") rfl (hn₁.push _) (fun h₃ hn₃ hs₃ => ?_) rfl) (by show 1 ≤ sizeLine; rw [sizeLine_eq]; omega))
    exact fin (fun _ _ e => e) (by simp [dueK, hlt']) h₃ hn₃ hs₃
  · have hge' : ¬ k < st := by omega
    have fin0 : ∀ {h₂ : Heap} {tk₂ : Nat}, Ext h₁ h₂ → .stop = dueK vs xs st k → Q .next { s with heap := h₂, toks := tk₂ } := by
      intro h₂ tk₂ hx hd
      refine hq s.heap.objs.size _ h₂ tk₂ (hx.ns hn₁) (fun x hx => if_neg hx) (if_pos rfl) ?_ (Nat.ne_of_gt hLs) (Nat.le_refl _) fun b o hb e => hx b o (k₁ b o hb e)
      rw [← hd]
      exact hx.list hD0
    have cell₂ : ∀ {h₂}, Ext h₁ h₂ → h₂.IsCell (L + 1) (some (.ref lS)) := fun hx => hc₁.keeps hx
    -- the last test
    have last : ∀ {h₂ : Heap} {tk₂ : Nat} {orelse : List Stmt}, Ext h₁ h₂ → (xs[st]? = some 0 → ¬ 0 < st) → orelse = (match lLoop with | [_, .If _ _ [.If _ _ o _] _, _] => o | _ => []) →
        wpAny (model prog w) A (execs orelse (lEnv L f cd)) Q E { s with heap := h₂, toks := tk₂ } := by
      intro h₂ tk₂ orelse hx hz0 ho
      subst ho
      show wpAny _ _ _ _ _ _
      refine execs_one (wpAny_If (wpAny_isTrue_BoolOp (wpAny_allTrue_And_cons (slice_test (s := { s with heap := h₂, toks := tk₂ }) (hx.ns hn₁) hst₁ (cell₂ hx) (hx.list hl₁) hI hsz hu (fun h₃ tk₃ x₃ => ?_)))))
      have hx₃ : Ext h₁ h₃ := fun b o e => x₃ b o (hx b o e)
      refine split_dec (fun hz => ?_) fun hz => ?_
      · refine wpAny_allTrue_And_cons (wpAny_isTrue_Compare1 (ldv (s := { s with heap := h₃, toks := tk₃ }) (hx₃.ns hn₁) hk₁ (wpAny_Constant_int (eq_int (wpAny_truthy_bool (split_bool (fun h0 => ?_) fun h0 => ?_))))) (by rfl))
        · have hk0 : k = 0 := by simpa using h0
          refine wpAny_allTrue_And_nil ?_
          refine execs_one (wpAny_Assign_Name (Tuple_ (spliced_more (wpAny_Constant_str (spliced_none (wpAny_newObj_type (wpAny_storeName_local (env := lEnv L f cd) (name := Str.ofString "due") rfl ((hx₃.ns hn₁).push _) (fun h₄ hn₄ hs₄ => ?_) rfl) (by show 1 ≤ sizeLine; rw [sizeLine_eq]; omega)))))))
          have hlt : L < h₃.objs.size := (hx₃.ns hn₁).lt
          refine hq h₃.objs.size _ h₄ _ hn₄ (fun x hx => by simp [hx]) (if_pos rfl) ?_ (Nat.ne_of_gt hlt) ?_ fun b o hb e => (hs₄.2 b hb).trans (Heap.get?_push_of_some _ (hx₃ b o (k₁ b o hb e)))
          · have hd : dueK vs xs st k = .err := by simp [dueK, hge', hz, hz0 hz, hk0]
            rw [hd]
            exact ⟨_, _, 0, (hs₄.2 _ (Nat.ne_of_gt hlt)).trans (Heap.get?_push_size _ rfl), rfl, rfl⟩
          · obtain ⟨o, ho, _⟩ := hx₃.list hD0
            exact Nat.le_of_lt (Heap.lt_size ho)
        · have hk0 : ¬ k = 0 := by simpa using h0
          exact wpAny_execs_nil (fin0 hx₃ (by simp [dueK, hge', hz0 hz, hk0]))
      · exact wpAny_execs_nil (fin0 hx₃ (by simp [dueK, hge', hz]))
    refine execs_one (wpAny_If (wpAny_isTrue_BoolOp (wpAny_allTrue_And_cons (slice_test (s := { s with heap := h₁, toks := s.toks + 1 }) hn₁ hst₁ hc₁ hl₁ hI hsz hu (fun h₂ tk₂ x₂ => ?_)))))
    refine split_dec (fun hz => ?_) fun hz => ?_
    · refine wpAny_allTrue_And_cons (wpAny_isTrue_Compare1 (ldv (s := { s with heap := h₂, toks := tk₂ }) (Ext.ns x₂ hn₁) hst₁ (wpAny_Constant_int (gt_int (wpAny_truthy_bool (split_dec (fun h0 => ?_) fun h0 => ?_))))) (by rfl))
      · have h0' : 0 < st := by omega
        have e1 : (st : Int) - 1 = ((st - 1 : Nat) : Int) := by omega
        have hd : .val (vs.getD (st - 1) .none) = dueK vs xs st k := by simp [dueK, hge', hz, h0']
        refine wpAny_allTrue_And_nil ?_
        refine execs_one (wpAny_Assign_Name (List_ (spliced_more (Subscript_ (lds (cell₂ x₂) (wpAny_BinOp (ldv (Ext.ns x₂ hn₁) hst₁ (wpAny_Constant_int (sub_int ?_)))))))))
        rw [e1]
        refine put (hs := by with_unfolding_all rfl) x₂ (by omega) hd ?_
        rintro _ rfl
        refine spliced_none (wpAny_newObj_type (wpAny_storeName_local (env := lEnv L f cd) (name := Str.ofString "due") rfl ((Ext.ns x₂ hn₁).push _) (fun h₃ hn₃ hs₃ => ?_) rfl) (by show 1 ≤ sizeLine; rw [sizeLine_eq]; omega))
        exact fin x₂ hd h₃ hn₃ hs₃
      · exact last x₂ (fun _ => by omega) rfl
    · exact last x₂ (fun q => absurd q hz) rfl
end
end Mine

namespace Mine
section
variable {vs : List Value} {xs : List Int} {st k : Nat}

/-- where the first generator stands ahead of the k-th step -/
def phase (vs : List Value) (xs : List Int) (st k : Nat) : S0 :=
  if k ≤ st then .run k else if xs[st]? = some 0 ∧ 0 < st then .rep (vs.getD (st - 1) .none) else .done

structure IsStop (xs : List Int) (st : Nat) : Prop where
  le : st ≤ xs.length
  low : ∀ j n, j < st → xs[j]? = some n → n ≠ 127 ∧ n ≠ 0
  at_ : ∀ n, xs[st]? = some n → n = 0 ∨ n = 127

theorem phase_out (hs : IsStop xs st) : outS vs xs (phase vs xs st k) = dueK vs xs st k := by
  by_cases h1 : k ≤ st
  · simp only [phase, if_pos h1, outS, out0]
    by_cases h2 : k < st
    · have hk : k < xs.length := Nat.lt_of_lt_of_le h2 hs.le
      obtain ⟨a, b⟩ := hs.low k xs[k] h2 (List.getElem?_eq_getElem hk)
      simp [dueK, h2, List.getElem?_eq_getElem hk, a, b]
    · have hk : k = st := by omega
      subst hk
      cases hx : xs[k]? with
      | none => simp [dueK, hx]
      | some n =>
        rcases hs.at_ n hx with rfl | rfl
        · by_cases h0 : k = 0
          · subst h0; simp [dueK, hx]
          · have : 0 < k := by omega
            simp [dueK, hx, h0, this]
        · simp [dueK, hx]
  · have h2 : ¬ k < st := by omega
    have h3 : ¬ k = 0 := by omega
    simp only [phase, if_neg h1, dueK, if_neg h2]
    by_cases h4 : xs[st]? = some 0 ∧ 0 < st
    · simp only [if_pos h4, outS]
    · simp [if_neg h4, outS, h3]

theorem phase_next (hs : IsStop xs st) : nxS vs xs (phase vs xs st k) = phase vs xs st (k + 1) := by
  by_cases h1 : k ≤ st
  · simp only [phase, if_pos h1, nxS, nx0]
    by_cases h2 : k < st
    · have hk : k < xs.length := Nat.lt_of_lt_of_le h2 hs.le
      obtain ⟨a, b⟩ := hs.low k xs[k] h2 (List.getElem?_eq_getElem hk)
      have h3 : k + 1 ≤ st := h2
      simp [h3, List.getElem?_eq_getElem hk, a, b]
    · have hk : k = st := by omega
      subst hk
      have h3 : ¬ k + 1 ≤ k := by omega
      simp only [if_neg h3]
      cases hx : xs[k]? with
      | none => simp
      | some n =>
        rcases hs.at_ n hx with rfl | rfl
        · by_cases h0 : k = 0
          · simp [h0]
          · have : 0 < k := by omega
            simp [h0, this]
        · simp
  · have h2 : ¬ k + 1 ≤ st := by omega
    simp only [phase, if_neg h1, if_neg h2]
    by_cases h4 : xs[st]? = some 0 ∧ 0 < st
    · simp only [if_pos h4, nxS]
    · simp only [if_neg h4, nxS]

theorem due_val (hs : IsStop xs st) (hI : IntsAre vs xs) (v : Value) (h : dueK vs xs st k = .val v) : ∃ n t, v = .int n t ∧ n ≠ 127 ∧ n ≠ 0 := by
  have one : ∀ j, j < st → ∃ n t, vs.getD j .none = .int n t ∧ n ≠ 127 ∧ n ≠ 0 := by
    intro j hj
    have hk : j < xs.length := Nat.lt_of_lt_of_le hj hs.le
    obtain ⟨t, ht⟩ := hI.get j xs[j] (List.getElem?_eq_getElem hk)
    obtain ⟨a, b⟩ := hs.low j xs[j] hj (List.getElem?_eq_getElem hk)
    exact ⟨xs[j], t, by simp [List.getD, ht], a, b⟩
  unfold dueK at h
  by_cases h1 : k < st
  · rw [if_pos h1] at h
    cases h
    exact one k h1
  · rw [if_neg h1] at h
    by_cases h2 : xs[st]? = some 0 ∧ 0 < st
    · rw [if_pos h2] at h
      cases h
      exact one (st - 1) (by omega)
    · rw [if_neg h2] at h
      by_cases h3 : xs[st]? = some 0 ∧ k = 0
      · rw [if_pos h3] at h; cases h
      · rw [if_neg h3] at h; cases h
end
end Mine

namespace Mine
section
variable {prog : Program} {w : World} {s s' : Shared} {aF lS : Addr} {Bd Bd' : Addr → Prop} {cd : Value} {L L0 L1 L2 : Lv} {vs : List Value} {σ : S0} {h' : Heap}

theorem St0.mapP (h : St0 prog w aF cd L lS Bd vs σ s) (hP : ∀ I i, s.heap.IsListIter I lS i → ¬ Bd I → ¬ Bd' I) : St0 prog w aF cd L lS Bd' vs σ s := by
  cases σ with
  | run i =>
    rcases h with h | ⟨I, gs, m, last, h1, h2, h3, h4, h5, h6, h7, h8⟩
    · exact .inl h
    · exact .inr ⟨I, gs, m, last, h1, h2, h3, h4, h5, h6, h7, hP I i h7 h8⟩
  | rep v => exact h
  | done => exact h
theorem Inv.mapP (h : Inv prog w aF cd L0 L1 L2 lS Bd vs σ s) (hP : ∀ I i, s.heap.IsListIter I lS i → ¬ Bd I → ¬ Bd' I) : Inv prog w aF cd L0 L1 L2 lS Bd' vs σ s := ⟨h.st.mapP hP, h.p, h.bare⟩

theorem St0.ext (h : St0 prog w aF cd L lS Bd vs σ s) (hk : ∀ b o, b = L.C ∨ (¬ Bd b ∧ ∃ i, s.heap.IsListIter b lS i) → s.heap.get? b = some o → s'.heap.get? b = some o) (hg : s'.gens[L.g]? = s.gens[L.g]?) : St0 prog w aF cd L lS Bd vs σ s' := by
  have ns : ∀ {m}, s.heap.Ns L.C m → s'.heap.Ns L.C m := fun ⟨o, es, ep, ho, r⟩ => ⟨o, es, ep, hk _ _ (.inl rfl) ho, r⟩
  cases σ with
  | run i =>
    rcases h with ⟨h1, h2, m, h3, h4⟩ | ⟨I, gs, m, last, h1, h2, h3, h4, h5, h6, h7, h8⟩
    · exact .inl ⟨h1, hg.trans h2, m, ns h3, h4⟩
    · obtain ⟨oI, hoI, r⟩ := id h7
      exact .inr ⟨I, gs, m, last, h1, h2, hg.trans h3, h4, ns h5, h6, ⟨oI, hk _ _ (.inr ⟨h8, i, h7⟩) hoI, r⟩, h8⟩
  | rep v =>
    obtain ⟨gs, m, h1, h2, h3, h4⟩ := h
    exact ⟨gs, m, hg.trans h1, h2, ns h3, h4⟩
  | done => exact hg.trans h

theorem P1.to {L : Lv} {b : Addr} {f : Bool} (h : P1 prog w aF cd L b f s) (hg : s'.gens[L.g]? = s.gens[L.g]?) (ns : ∀ m, s.heap.Ns L.C m → s'.heap.Ns L.C m) : P1 prog w aF cd L b f s' := by
  cases f with
  | true => exact hg.trans h
  | false => exact Alive.to h hg ns

/-- all but some objects as they were, the generators as they were -/
theorem Inv.ext (h : Inv prog w aF cd L0 L1 L2 lS Bd vs σ s) (hk : ∀ b o, b = L0.C ∨ b = L1.C ∨ b = L2.C ∨ (¬ Bd b ∧ ∃ i, s.heap.IsListIter b lS i) → s.heap.get? b = some o → s'.heap.get? b = some o) (hg : s'.gens = s.gens) :
    Inv prog w aF cd L0 L1 L2 lS Bd vs σ s' := by
  obtain ⟨h1, ⟨f1, f2, p1, p2, hf⟩, hb⟩ := h
  exact ⟨h1.ext (fun b o q e => hk b o (q.imp id fun q => .inr (.inr q)) e) (by rw [hg]), ⟨f1, f2, p1.to (by rw [hg]) fun m ⟨o, es, ep, ho, r⟩ => ⟨o, es, ep, hk _ _ (.inr (.inl rfl)) ho, r⟩,
    p2.to (by rw [hg]) fun m ⟨o, es, ep, ho, r⟩ => ⟨o, es, ep, hk _ _ (.inr (.inr (.inl rfl))) ho, r⟩, hf⟩, fun i x hx => hb i x (by rw [← hg]; exact hx)⟩

theorem Inv.slots {La : Addr} (h : Inv prog w aF cd L0 L1 L2 lS Bd vs .done s) (k : Slo La s s') (h1 : L1.C ≠ La) (h2 : L2.C ≠ La) : Inv prog w aF cd L0 L1 L2 lS Bd' vs .done s' := by
  have ns : ∀ C, C ≠ La → ∀ m, s.heap.Ns C m → s'.heap.Ns C m := fun C hC m ⟨o, es, ep, ho, hd, r⟩ => by
    obtain ⟨sl, hs⟩ := k.slots C o hC ho fun vs q => by rw [hd] at q; cases q
    exact ⟨_, es, ep, hs, hd, r⟩
  obtain ⟨a, ⟨f1, f2, p1, p2, hf⟩, hb⟩ := h
  exact ⟨show s'.gens[L0.g]? = _ by rw [k.gens]; exact a, ⟨f1, f2, p1.to (by rw [k.gens]) (ns _ h1), p2.to (by rw [k.gens]) (ns _ h2), hf⟩, fun i x hx => hb i x (by rw [← k.gens]; exact hx)⟩
end

/-! ## one turn of the law's loop -/
section
variable {prog : Program} {w : World} {A : Around} {s : Shared} {h₀ : Heap} {aF fA lS lK lW L f IR : Addr} {Bd : Nat} {cdG cdA cd pm doc : Value} {oA : Obj} {os₀ : OsState} {L0 L1 L2 : Lv} {vs us : List Value} {xs ks : List Int} {mg mb : Str → Option Value} {st k : Nat} {ts tk : Tok} {m : Str → Option Value}

/-- what does not change -/
structure LCon (h₀ : Heap) (Bd : Nat) (L0 L1 L2 : Lv) (lS lK lW L IR : Addr) : Prop where
  top : Bd = IR + 1
  topA : IR ∉ [L0.C, L1.C, L2.C, L]
  nolimit : h₀.NoLimit
  low : h₀.objs.size ≤ L
  ab : ∀ b ∈ [L0.C, L1.C, L2.C], h₀.objs.size ≤ b
  lt : ∀ b ∈ [L0.C, L1.C, L2.C, L0.a, L1.a, L2.a, lS, lK, lW, L, L + 1], b < Bd
  nd : [L0.C, L1.C, L2.C, L0.a, L1.a, L2.a, lS].Nodup
  apart : ∀ b ∈ [L, L + 1, lK, lW], b ∉ [L0.C, L1.C, L2.C, L0.a, L1.a, L2.a]
  apartL : ∀ b ∈ [L + 1, lS, lK, lW], b ≠ L
  gd : [L0.g, L1.g, L2.g].Nodup

structure LInv (prog : Program) (w : World) (h₀ : Heap) (Bd : Nat) (aF : Addr) (cdG : Value) (L0 L1 L2 : Lv) (lS lK lW L IR : Addr) (vs us : List Value) (xs : List Int) (st : Nat) (ts : Tok) (os₀ : OsState) (k : Nat) (m : Str → Option Value) (s : Shared) : Prop where
  base : Ext h₀ s.heap
  ns : s.heap.Ns L m
  msteps : m (Str.ofString "steps") = some (.ref lK)
  mstop : m (Str.ofString "stop") = some (.int st ts)
  mwalks : m (Str.ofString "walks") = some (.ref lW)
  cell : s.heap.IsCell (L + 1) (some (.ref lS))
  list : s.heap.IsList lS vs.toArray
  listK : s.heap.IsList lK us.toArray
  listW : s.heap.IsList lW #[.ref L0.a, .ref L1.a, .ref L2.a]
  gen0 : s.heap.IsGen L0.a L0.g
  gen1 : s.heap.IsGen L1.a L1.g
  gen2 : s.heap.IsGen L2.a L2.g
  g0 : L0.g < s.gens.size
  g1 : L1.g < s.gens.size
  g2 : L2.g < s.gens.size
  inv : Inv prog w aF cdG L0 L1 L2 lS (fun b => b < Bd) vs (phase vs xs st k) s
  top : ∃ o, s.heap.get? IR = some o
  os : s.os = os₀

theorem LInv.step {k : Nat} {m' : Str → Option Value} {h' : Heap} {tk' : Nat} (K : LCon h₀ Bd L0 L1 L2 lS lK lW L IR) (I : LInv prog w h₀ Bd aF cdG L0 L1 L2 lS lK lW L IR vs us xs st ts os₀ k m s)
    (hk : ∀ b o, b ≠ L → s.heap.get? b = some o → h'.get? b = some o) (hn : h'.Ns L m') (hm : ∀ x, x = Str.ofString "steps" ∨ x = Str.ofString "stop" ∨ x = Str.ofString "walks" → m' x = m x) :
    LInv prog w h₀ Bd aF cdG L0 L1 L2 lS lK lW L IR vs us xs st ts os₀ k m' { s with heap := h', toks := tk' } := by
  have nL : ∀ b ∈ [L0.C, L1.C, L2.C, L0.a, L1.a, L2.a], b ≠ L := fun b hb q => K.apart L (.head _) (q ▸ hb)
  have gen : ∀ {a g}, a ∈ [L0.C, L1.C, L2.C, L0.a, L1.a, L2.a] → s.heap.IsGen a g → h'.IsGen a g := fun ha ⟨o, nm, qn, ho, r⟩ => ⟨o, nm, qn, hk _ _ (nL _ ha) ho, r⟩
  have lst : ∀ {l a}, l ≠ L → s.heap.IsList l a → h'.IsList l a := fun hl ⟨o, ho, r⟩ => ⟨o, hk _ _ hl ho, r⟩
  refine ⟨fun b o e => hk b o (fun q => absurd (Heap.lt_size e) (Nat.not_lt.mpr (q ▸ K.low))) (I.base b o e), hn, (hm _ (.inl rfl)).trans I.msteps, (hm _ (.inr (.inl rfl))).trans I.mstop, (hm _ (.inr (.inr rfl))).trans I.mwalks,
    (let ⟨o, ho, r⟩ := I.cell; ⟨o, hk _ _ (Nat.succ_ne_self L) ho, r⟩), lst (K.apartL _ (by simp)) I.list, lst (K.apartL _ (by simp)) I.listK, lst (K.apartL _ (by simp)) I.listW,
    gen (by simp) I.gen0, gen (by simp) I.gen1, gen (by simp) I.gen2, I.g0, I.g1, I.g2, I.inv.ext (fun b o q e => hk b o ?_ e) rfl, (let ⟨o, ho⟩ := I.top; ⟨o, hk _ _ (fun q => K.topA (by simp [q])) ho⟩), I.os⟩
  rcases q with rfl | rfl | rfl | ⟨h1, _⟩
  · exact nL _ (by simp)
  · exact nL _ (by simp)
  · exact nL _ (by simp)
  · exact fun q => h1 (q ▸ K.lt L (by simp))

theorem LInv.size (K : LCon h₀ Bd L0 L1 L2 lS lK lW L IR) (I : LInv prog w h₀ Bd aF cdG L0 L1 L2 lS lK lW L IR vs us xs st ts os₀ k m s) : Bd ≤ s.heap.objs.size := by
  obtain ⟨o, ho⟩ := I.top
  rw [K.top]
  exact Heap.lt_size ho

set_option maxRecDepth 100000 in
set_option maxHeartbeats 4000000 in
theorem turn_ok (G : Glo h₀ mg mb) (hask : mg (Str.ofString "_law_ask") = some (.ref fA)) (hoA : h₀.get? fA = some oA) (hdA : oA.data = .func (Calls.docDef aName aParams aBody aScope pm cdA doc)) (hcdA : h₀.CodeRec cdA aName)
    (K : LCon h₀ Bd L0 L1 L2 lS lK lW L IR) (hA : AOk A [lEnv L f cd] 20) (I : LInv prog w h₀ Bd aF cdG L0 L1 L2 lS lK lW L IR vs us xs st ts os₀ k m s) (hk : m (Str.ofString "k") = some (.int k tk))
    (hkl : k < ks.length) (hI : IntsAre vs xs) (hIk : IntsAre us ks) (hks : ∀ (j : Nat) (n : Int), ks[j]? = some n → 0 ≤ n ∧ n < 3) (hs : IsStop xs st) (hlen : xs.length ≤ 63) (hklen : ks.length ≤ 75) :
    wpAny (model prog w) A (execs lLoop (lEnv L f cd)) (fun fl s' => fl = .next ∧ ∃ m', LInv prog w h₀ Bd aF cdG L0 L1 L2 lS lK lW L IR vs us xs st ts os₀ (k + 1) m' s' ∧
      (∀ b o, b < Bd → b ∉ [L2.C, L1.C, L0.C] → b ≠ L → s.heap.get? b = some o → s'.heap.get? b = some o)) (fun _ _ => False) s := by
  refine execs_splitN 2 ?_
  have hu : A.units + 64 < cLine := by have := hA.units; omega
  refine due_ok I.ns hk I.mstop I.cell I.list (K.apartL _ (by simp)) hI hlen hs.le hu fun D m' h' tk' hn' hm' hD hdue hDL hDn hkeep => Rest.mk ?_
  have I₁ := I.step (tk' := tk') K hkeep hn' (fun x hx => hm' x (by rcases hx with rfl | rfl | rfl <;> decide))
  have hk₁ : m' (Str.ofString "k") = some (.int k tk) := (hm' _ (by decide)).trans hk
  have hsz₁ := I₁.size K
  obtain ⟨tu, hut⟩ := hIk.get k ks[k] (List.getElem?_eq_getElem hkl)
  obtain ⟨hn0, hn3⟩ := hks k ks[k] (List.getElem?_eq_getElem hkl)
  generalize hnn : ks[k] = n at *
  have kN : (((k : Nat) : Int)).toNat = k := by omega
  obtain ⟨a, ga, hga, hwa, haw⟩ : ∃ a g, h'.IsGen a g ∧ (#[.ref L0.a, .ref L1.a, .ref L2.a] : Array Value)[n.toNat]? = some (.ref a) ∧ (a = L0.a ∨ a = L1.a ∨ a = L2.a) := by
    have h3 : n = 0 ∨ n = 1 ∨ n = 2 := by omega
    rcases h3 with rfl | rfl | rfl
    · exact ⟨_, _, I₁.gen0, rfl, .inl rfl⟩
    · exact ⟨_, _, I₁.gen1, rfl, .inr (.inl rfl)⟩
    · exact ⟨_, _, I₁.gen2, rfl, .inr (.inr rfl)⟩
  show wpAny _ _ _ _ _ _
  refine execs_one (wpAny_If (wpAny_isTrue_Compare1 (Call_Name1 (Calls.Name_function_global (env := lEnv L f cd) rfl rfl (Calls.loadGlobal_global (env := lEnv L f cd) (Ext.ns I₁.base G.g) hask ?_))) (by rfl)))
  refine callWith_function_kw (o := oA) (fd := Calls.docDef aName aParams aBody aScope pm cdA doc) (Calls.evalArgs_plain (Calls.spliced_cons (Subscript_ (ldv I₁.ns I₁.mwalks (Subscript_ (ldv I₁.ns I₁.msteps (ldv I₁.ns hk₁ ?_)))))))
  refine tail_any (Heap.IsList.typeIs (s := { s with heap := h', toks := tk' }) I₁.listK) list_getitem_lookup (wpAny_getItem_list (s := { s with heap := h', toks := tk' }) I₁.listK (by omega) (by omega) (by rw [kN]; simpa using hut) ?_) (by with_unfolding_all rfl)
  refine tail_any (Heap.IsList.typeIs (s := { s with heap := h', toks := tk' }) I₁.listW) list_getitem_lookup (wpAny_getItem_list (s := { s with heap := h', toks := tk' }) I₁.listW hn0 (by omega) hwa ?_) (by with_unfolding_all rfl)
  refine Calls.spliced_nil ⟨⟨I₁.base _ _ hoA, hdA⟩, wpAny_call ?_⟩
  have nd := K.nd
  simp only [List.nodup_cons, List.mem_cons, List.not_mem_nil, not_or, or_false] at nd
  have ltB : ∀ b ∈ [L0.C, L1.C, L2.C, L0.a, L1.a, L2.a, lS, lK, lW, L, L + 1], b < h'.objs.size := fun b hb => Nat.lt_of_lt_of_le (K.lt b hb) hsz₁
  have hDlt : D < h'.objs.size := by
    cases hd : dueK vs xs st k with
    | val v => rw [hd] at hdue; exact Heap.lt_size hdue.choose_spec.1
    | stop => rw [hd] at hdue; exact Heap.lt_size hdue.choose_spec.1
    | err => rw [hd] at hdue; obtain ⟨_, _, _, ho, _⟩ := hdue; exact Heap.lt_size ho
  have nL : ∀ b ∈ [L0.C, L1.C, L2.C, L0.a, L1.a, L2.a], b ≠ L := fun b hb q => K.apart L (.head _) (q ▸ hb)
  have notIter : ∀ {I i}, h'.IsListIter I lS i → I ≠ D := by
    rintro I i ⟨oI, hoI, _, hdI⟩ rfl
    cases hd : dueK vs xs st k with
    | val v => rw [hd] at hdue; obtain ⟨ob, ho, _, _, hs⟩ := hdue; rw [hoI] at ho; cases ho; rw [hdI] at hs; cases hs
    | stop => rw [hd] at hdue; obtain ⟨ob, ho, _, _, hs⟩ := hdue; rw [hoI] at ho; cases ho; rw [hdI] at hs; cases hs
    | err => rw [hd] at hdue; obtain ⟨_, ob, _, ho, _, hs⟩ := hdue; rw [hoI] at ho; cases ho; rw [hdI] at hs; cases hs
  have K' : Con h₀ (fun b => b < Bd ∨ b = h'.objs.size ∨ b = D) L0 L1 L2 lS h'.objs.size := by
    have lo : ∀ b, b < h₀.objs.size → b < Bd := fun b hb => Nat.lt_trans (Nat.lt_of_lt_of_le hb K.low) (K.lt L (by simp))
    refine ⟨K.nolimit, fun b hb => .inl (lo b hb), K.ab _ (by simp), K.ab _ (by simp), K.ab _ (by simp), .inl (K.lt _ (by simp)), .inl (K.lt _ (by simp)), .inl (K.lt _ (by simp)), .inl (K.lt _ (by simp)), .inl (K.lt _ (by simp)), .inl (K.lt _ (by simp)),
      .inl (K.lt _ (by simp)), K.nd, K.gd, fun b hb => ?_, fun hm => ?_⟩
    · rcases hb with hb | rfl | rfl
      · exact Nat.le_of_lt (Nat.lt_of_lt_of_le hb hsz₁)
      · exact Nat.le_refl _
      · exact Nat.le_of_lt hDlt
    · exact absurd (ltB _ (by simp only [List.mem_cons, List.not_mem_nil, or_false] at hm ⊢; rcases hm with q | q | q <;> simp [q])) (Nat.lt_irrefl _)
  have fin : ∀ s₃ : Shared, Aft (fun b => b < Bd ∨ b = h'.objs.size ∨ b = D) [L2.C, L1.C, L0.C] [L2.g, L1.g, L0.g] [lEnv L f cd] { s with heap := h', toks := tk' } s₃ → Inv prog w aF cdG L0 L1 L2 lS (fun b => b < Bd) vs (phase vs xs st (k + 1)) s₃ →
      DueAt s₃.heap D (dueK vs xs st k) ∧ s₃.heap.Ns L m' ∧ LInv prog w h₀ Bd aF cdG L0 L1 L2 lS lK lW L IR vs us xs st ts os₀ (k + 1) m' s₃ ∧ (∀ b o, b < Bd → b ∉ [L2.C, L1.C, L0.C] → b ≠ L → s.heap.get? b = some o → s₃.heap.get? b = some o) := by
    intro s₃ ha j
    have kp : ∀ b o, b < Bd → b ∉ [L2.C, L1.C, L0.C] → b ≠ L → h'.get? b = some o → s₃.heap.get? b = some o := fun b o h1 h2 h3 e => ha.heap b o (.inl h1) h2 (by show b ∉ [L]; simpa using h3) e
    have cs : ∀ b, b ∉ [L0.C, L1.C, L2.C, L0.a, L1.a, L2.a] → b ∉ [L2.C, L1.C, L0.C] := fun b hb hm => hb (by simp only [List.mem_cons, List.not_mem_nil, or_false] at hm ⊢; rcases hm with q | q | q <;> simp [q])
    have hDC : D ∉ [L2.C, L1.C, L0.C] := fun hm => by
      have h1 := K.lt D (by simp only [List.mem_cons, List.not_mem_nil, or_false] at hm ⊢; rcases hm with q | q | q <;> simp [q])
      exact absurd (Nat.lt_of_lt_of_le h1 (I.size K)) (Nat.not_lt.mpr hDn)
    have ns₃ : s₃.heap.Ns L m' := by
      obtain ⟨oL, es, ep, hoL, hdL, r⟩ := I₁.ns
      obtain ⟨sl, h1⟩ := ha.slots L oL hoL (.inl (K.lt L (by simp))) (cs L (K.apart L (.head _))) fun vs q => by rw [hdL] at q; cases q
      exact ⟨_, es, ep, h1, hdL, r⟩
    have aC : ∀ b ∈ [L0.a, L1.a, L2.a, lS], b ∉ [L2.C, L1.C, L0.C] := by
      intro b hb hm
      simp only [List.mem_cons, List.not_mem_nil, or_false] at hb hm
      rcases hb with rfl | rfl | rfl | rfl <;> rcases hm with q | q | q <;> simp_all
    have gen : ∀ {a g}, a ∈ [L0.a, L1.a, L2.a] → h'.IsGen a g → s₃.heap.IsGen a g := fun {a g} hm ⟨o, nm, qn, ho, r⟩ =>
      ⟨o, nm, qn, kp _ _ (K.lt _ (by simp only [List.mem_cons, List.not_mem_nil, or_false] at hm ⊢; rcases hm with q | q | q <;> simp [q])) (aC _ (by simp only [List.mem_cons, List.not_mem_nil, or_false] at hm ⊢; rcases hm with q | q | q <;> simp [q]))
        (nL _ (by simp only [List.mem_cons, List.not_mem_nil, or_false] at hm ⊢; rcases hm with q | q | q <;> simp [q])) ho, r⟩
    refine ⟨hdue.keeps fun ob e => ha.heap D ob (.inr (.inr rfl)) hDC (by show D ∉ [L]; simpa using hDL) e, ns₃, ⟨fun b o e => ?_, ns₃, I₁.msteps, I₁.mstop, I₁.mwalks, ?_, ?_, ?_, ?_, gen (by simp) I₁.gen0, gen (by simp) I₁.gen1, gen (by simp) I₁.gen2,
      by rw [ha.size]; exact I₁.g0, by rw [ha.size]; exact I₁.g1, by rw [ha.size]; exact I₁.g2, j, ?_, ha.os.trans I₁.os⟩, fun b o h1 h2 h3 e => kp b o h1 h2 h3 (hkeep b o h3 e)⟩
    · have hlt := Heap.lt_size e
      refine kp b o (Nat.lt_trans (Nat.lt_of_lt_of_le hlt K.low) (K.lt L (by simp))) (fun hm => ?_) (fun q => absurd hlt (Nat.not_lt.mpr (q ▸ K.low))) (I₁.base b o e)
      have := K.ab b (by simp only [List.mem_cons, List.not_mem_nil, or_false] at hm ⊢; rcases hm with q | q | q <;> simp [q])
      exact absurd hlt (Nat.not_lt.mpr this)
    · obtain ⟨o, ho, r⟩ := I₁.cell
      exact ⟨o, kp _ _ (K.lt _ (by simp)) (cs _ (K.apart _ (by simp))) (Nat.succ_ne_self L) ho, r⟩
    · obtain ⟨o, ho, r⟩ := I₁.list
      exact ⟨o, kp _ _ (K.lt _ (by simp)) (aC _ (by simp)) (K.apartL _ (by simp)) ho, r⟩
    · obtain ⟨o, ho, r⟩ := I₁.listK
      exact ⟨o, kp _ _ (K.lt _ (by simp)) (cs _ (K.apart _ (by simp))) (K.apartL _ (by simp)) ho, r⟩
    · obtain ⟨o, ho, r⟩ := I₁.listW
      exact ⟨o, kp _ _ (K.lt _ (by simp)) (cs _ (K.apart _ (by simp))) (K.apartL _ (by simp)) ho, r⟩
    · obtain ⟨o, ho⟩ := I₁.top
      exact ⟨o, kp _ _ (by rw [K.top]; exact Nat.lt_succ_self _) (fun hm => K.topA (by simp only [List.mem_cons, List.not_mem_nil, or_false] at hm ⊢; rcases hm with q | q | q <;> simp [q])) (fun q => K.topA (by simp [q])) ho⟩
  refine ask_call (N := 8) (Bd := fun b => b < Bd ∨ b = h'.objs.size ∨ b = D) (Cs := [L2.C, L1.C, L0.C]) (Gs := [L2.g, L1.g, L0.g]) (outer := [lEnv L f cd]) (o := dueK vs xs st k) (g := ga) (mg := mg) (mb := mb) (h₀ := h₀)
    (J := Inv prog w aF cdG L0 L1 L2 lS (fun b => b < Bd ∨ b = h'.objs.size ∨ b = D) vs (phase vs xs st (k + 1))) (J' := Inv prog w aF cdG L0 L1 L2 lS (fun b => b < Bd) vs (phase vs xs st (k + 1)))
    (s := { s with heap := h', toks := tk' }) G (hA.less (by omega)) I₁.base K'.low K.nolimit ?cs ?sz ?fr (I₁.base _ _ hoA) hdA (hcdA.keeps I₁.base) hga (.inr (.inl rfl)) ?lc ?hc ?hJ ?hJe ?hval ?hstop ?herr
  case cs => exact fun c hc => K.ab c (by simp only [List.mem_cons, List.not_mem_nil, or_false] at hc ⊢; rcases hc with q | q | q <;> simp [q])
  case sz => exact Nat.le_of_lt (Nat.lt_of_le_of_lt K.low (ltB L (by simp)))
  case fr =>
    intro b hb
    have hb' : b ∈ [L] := hb
    rw [List.mem_singleton] at hb'
    subst hb'
    exact ⟨K.low, ltB _ (by simp)⟩
  case lc => exact fun hm => absurd (ltB _ (by simp only [List.mem_cons, List.not_mem_nil, or_false] at hm ⊢; rcases hm with q | q | q <;> simp [q])) (Nat.lt_irrefl _)
  case hc =>
    intro h₁ tk₁ m₁ hx nsA
    have gen : ∀ {a g}, h'.IsGen a g → h₁.IsGen a g := fun ⟨o, nm, qn, ho, r⟩ => ⟨o, nm, qn, hx _ _ ho, r⟩
    have B' : Bas h₀ L0 L1 L2 lS h'.objs.size vs { s with heap := h₁, toks := tk₁ } :=
      ⟨fun b o e => hx b o (I₁.base b o e), gen I₁.gen0, gen I₁.gen1, gen I₁.gen2, Ext.list hx I₁.list, I₁.g0, I₁.g1, I₁.g2, let ⟨o, _, _, ho, _⟩ := nsA; ⟨o, ho⟩⟩
    have fo : FramesOn [aEnv h'.objs.size fA cdA, lEnv L f cd] h₁ :=
      FramesOn.cons (FramesOn.cons (fun _ _ => trivial) (by show ScopeKind.function ≠ .module; decide) rfl (Ext.ns hx I₁.ns)) (by show ScopeKind.function ≠ .module; decide) rfl nsA
    have fr : FrOK h₀ (fun b => b < Bd ∨ b = h'.objs.size ∨ b = D) [L0.C, L1.C, L2.C, L0.a, L1.a, L2.a] [aEnv h'.objs.size fA cdA, lEnv L f cd] := by
      intro b hb
      have hb' : b ∈ [h'.objs.size, L] := hb
      simp only [List.mem_cons, List.not_mem_nil, or_false] at hb'
      rcases hb' with rfl | rfl
      · exact ⟨Nat.le_of_lt (Nat.lt_of_le_of_lt K.low (ltB L (by simp))), .inr (.inl rfl), fun hm => absurd (ltB _ (by simp only [List.mem_cons, List.not_mem_nil, or_false] at hm ⊢; rcases hm with q | q | q | q | q | q <;> simp [q])) (Nat.lt_irrefl _)⟩
      · exact ⟨K.low, .inl (K.lt _ (by simp)), fun hm => nL _ hm rfl⟩
    have iv : Inv prog w aF cdG L0 L1 L2 lS (fun b => b < Bd ∨ b = h'.objs.size ∨ b = D) vs (phase vs xs st k) { s with heap := h₁, toks := tk₁ } :=
      Inv.ext (I₁.inv.mapP fun I i hit hB hP => by
        rcases hP with q | q | q
        · exact hB q
        · obtain ⟨oI, hoI, _⟩ := hit
          exact absurd (Heap.lt_size hoI) (by show ¬ (I < h'.objs.size); rw [q]; exact Nat.lt_irrefl _)
        · exact notIter hit q) (fun b o _ e => hx b o e) rfl
    have ct := chain_ask (N := 0) (outer := [aEnv h'.objs.size fA cdA, lEnv L f cd]) K' G B' fo fr hI (fun v q => due_val (k := k) hs hI v (by rw [← phase_out hs]; exact q)) iv haw
    rw [phase_out hs, phase_next hs] at ct
    exact ct
  case hJ =>
    intro _ s₁ s₂ j hx hg
    have lt3 : ∀ b ∈ [L0.C, L1.C, L2.C], b ≠ h'.objs.size := fun b hb => Nat.ne_of_lt (ltB b (by simp only [List.mem_cons, List.not_mem_nil, or_false] at hb ⊢; rcases hb with q | q | q <;> simp [q]))
    refine Inv.mapP (j.ext (fun b o q e => hx b o ?_ e) hg) fun I i _ hB hP => hB (.inl hP)
    rcases q with rfl | rfl | rfl | ⟨h1, _⟩
    · exact lt3 _ (by simp)
    · exact lt3 _ (by simp)
    · exact lt3 _ (by simp)
    · exact fun q => h1 (.inr (.inl q))
  case hJe =>
    intro he s₁ s₂ j sl
    have hd : phase vs xs st (k + 1) = .done := by rw [← phase_next hs]; exact nx_err (by rw [phase_out hs]; exact he)
    rw [hd] at j ⊢
    exact j.slots sl (Nat.ne_of_lt (ltB _ (by simp))) (Nat.ne_of_lt (ltB _ (by simp)))
  case hval =>
    intro v hv s₃ D₂ ha j hl _
    obtain ⟨hdu, hns, hI', hkp⟩ := fin s₃ ha j
    rw [hv] at hdu
    obtain ⟨n', t', rfl, _, _⟩ := due_val hs hI v hv
    refine ldv hns hD (ne_intsK (vs := [.int n' t']) (us := [.int n' t']) (ns := [n']) (ms := [n']) hl (.cons _ _ .nil) hdu (.cons _ _ .nil) hu (wpAny_truthy_bool ?_))
    rw [show (!decide ([n'] = [n'])) = false by simp, if_neg (by decide)]
    exact wpAny_execs_nil ⟨rfl, m', hI', hkp⟩
  case hstop =>
    intro hv s₃ D₂ ha j hl _
    obtain ⟨hdu, hns, hI', hkp⟩ := fin s₃ ha j
    rw [hv] at hdu
    refine ldv hns hD (ne_intsK (vs := []) (us := []) (ns := []) (ms := []) hl .nil hdu .nil hu (wpAny_truthy_bool ?_))
    rw [show (!decide (([] : List Int) = [])) = false by simp, if_neg (by decide)]
    exact wpAny_execs_nil ⟨rfl, m', hI', hkp⟩
  case herr =>
    intro hv s₃ D₂ t₂ ha j hl
    obtain ⟨hdu, hns, hI', hkp⟩ := fin s₃ ha j
    rw [hv] at hdu
    obtain ⟨t₃, hdu⟩ := hdu
    have rd : ∀ {b tk}, s₃.heap.TupAt b [.str (Str.ofString "invalid grouping") tk] → Reads s₃.heap (.ref b) (.tuple [.str (Str.ofString "invalid grouping")]) [] := fun ⟨o, n, ho, hc, hd⟩ =>
      .tuple ho hc hd (.cons (.str _ _) .nil)
    refine ldv hns hD (ne_dataH_same (rd hl) (rd hdu) (by decide +kernel) (by decide +kernel) hu (by decide +kernel) ?_)
    rw [show (!PySem.Spec.same (.tuple [.str (Str.ofString "invalid grouping")]) (.tuple [.str (Str.ofString "invalid grouping")])) = false by decide +kernel]
    refine wpAny_truthy_bool ?_
    rw [if_neg (by decide)]
    exact wpAny_execs_nil ⟨rfl, m', hI', hkp⟩
end
end Mine

namespace Mine
def stopStmt : Stmt := match lBody with
  | [_, _, _, _, s, _, _, _, _, _] => s
  | _ => .Pass default

structure Glo2 (mg mb : Str → Option Value) : Prop where
  r : mg (Str.ofString "range") = none
  r' : mb (Str.ofString "range") = some (.type "range")
  l : mg (Str.ofString "len") = none
  l' : mb (Str.ofString "len") = some (.builtin "len")

section
variable {prog : Program} {w : World} {A : Around} {E : Value → Shared → Prop} {s : Shared} {L f lS : Addr} {cd : Value} {m mg mb : Str → Option Value} {vs : List Value} {xs : List Int}

theorem len_sizes {p1 p2 p3 : Pos} {Q : Value → Shared → Prop} (hg : s.heap.Ns mainGlobals mg) (hb : s.heap.Ns builtinsNs mb) (G2 : Glo2 mg mb) (hc : s.heap.IsCell (L + 1) (some (.ref lS))) (hl : s.heap.IsList lS vs.toArray) (hI : IntsAre vs xs) (hlen : xs.length ≤ 63)
    (h : ∀ t tk, Q (.int xs.length t) { s with toks := tk }) :
    wpAny (model prog w) A (eval (.Call (.Name (Str.ofString "len") p1) [.Name (Str.ofString "sizes") p2] [] p3) (lEnv L f cd)) Q E s := by
  have e : vs.toArray.size = xs.length := by rw [List.size_toArray, hI.length]
  refine Call_Name1 (Calls.Name_function_global (env := lEnv L f cd) rfl rfl (Calls.loadGlobal_builtin (env := lEnv L f cd) hg G2.l hb G2.l' ?_))
  refine Calls.callWith_builtin rfl (Calls.evalArgs_plain (Calls.spliced_cons (lds hc (Calls.spliced_nil (Calls.call_len_list hl (by rw [e]; omega) ?_)))))
  rw [e]
  exact h _ _

def pStop (xs : List Int) : Value → Bool
  | .int j _ => decide (xs[j.toNat]? = some 0) || decide (xs[j.toNat]? = some 127)
  | _ => false

theorem stop_aux {t : Tok} : ∀ (l : List Value) (k : Nat), (∀ j v, l[j]? = some v → ∃ u, v = Value.int ((k + j : Nat) : Int) u) → k + l.length = xs.length → (∀ j n, j < k → xs[j]? = some n → n ≠ 127 ∧ n ≠ 0) →
    ∃ (st : Nat) (ts : Tok), (l.filter (pStop xs) ++ [Value.int (xs.length : Int) t])[0]? = some (Value.int st ts) ∧ IsStop xs st
  | [], k, _, hk, hlow => ⟨xs.length, t, rfl, Nat.le_refl _, fun j n hj => hlow j n (by simp at hk; omega), fun n hn => by simp at hn⟩
  | v :: l, k, hl, hk, hlow => by
    obtain ⟨u, hv⟩ := hl 0 v rfl
    rw [Nat.add_zero] at hv
    subst hv
    have hk' : k + (l.length + 1) = xs.length := hk
    have e : ((k : Nat) : Int).toNat = k := by omega
    have hp : pStop xs (.int (k : Nat) u) = (decide (xs[k]? = some 0) || decide (xs[k]? = some 127)) := by
      show (decide (xs[((k : Nat) : Int).toNat]? = some 0) || decide (xs[((k : Nat) : Int).toNat]? = some 127)) = _
      rw [e]
    cases hb : pStop xs (.int (k : Nat) u) with
    | true =>
      rw [List.filter_cons_of_pos hb]
      refine ⟨k, u, rfl, by omega, hlow, fun n hn => ?_⟩
      rw [hp, hn] at hb
      simpa using hb
    | false =>
      rw [List.filter_cons_of_neg (by simp [hb])]
      refine stop_aux l (k + 1) (fun j v hv => ?_) (by omega) fun j n hj hn => ?_
      · obtain ⟨u', e'⟩ := hl (j + 1) v hv
        exact ⟨u', by rw [e']; congr 1; push_cast; omega⟩
      · by_cases hjk : j < k
        · exact hlow j n hjk hn
        · have : j = k := by omega
          subst this
          rw [hp, hn] at hb
          simp at hb
          exact ⟨hb.2, hb.1⟩

theorem paired_eq : ∀ {l₁ l₂ : List Value}, Paired (fun v y => y = v) l₁ l₂ → l₂ = l₁
  | _, _, .nil => rfl
  | _, _, .cons h t => by rw [h, paired_eq t]

set_option maxRecDepth 100000 in
set_option maxHeartbeats 4000000 in
theorem stop_ok {Q : Flow → Shared → Prop} (hh : A.handled = none) (hg : s.heap.Ns mainGlobals mg) (hb : s.heap.Ns builtinsNs mb) (G2 : Glo2 mg mb) (hn : s.heap.Ns L m) (hc : s.heap.IsCell (L + 1) (some (.ref lS))) (hl : s.heap.IsList lS vs.toArray) (hlL : lS ≠ L) (hI : IntsAre vs xs) (hlen : xs.length ≤ 63)
    (hq : ∀ st ts m' h' tk, IsStop xs st → h'.Ns L m' → (∀ x, x ≠ Str.ofString "stop" → m' x = m x) → m' (Str.ofString "stop") = some (.int (st : Nat) ts) → (∀ b o, b ≠ L → s.heap.get? b = some o → h'.get? b = some o) → Q .next { s with heap := h', toks := tk }) :
    wpAny (model prog w) A (exec stopStmt (lEnv L f cd)) Q E s := by
  have e : vs.toArray.size = xs.length := by rw [List.size_toArray, hI.length]
  refine wpAny_Assign_Name (Subscript_ (wpAny_BinOp (wpAny_ListComp_free (cl := [(Str.ofString "sizes", L + 1)]) (pStop xs) (fun v y => y = v) (by with_unfolding_all rfl) (by decide) (by rfl) (by decide) (by rfl)
    (Call_Name1 (Calls.Name_function_global (env := lEnv L f cd) rfl rfl (Calls.loadGlobal_builtin (env := lEnv L f cd) hg G2.r hb G2.r' ?_)))))) 
  refine PyProof.Rows.callWith_type rfl (Calls.evalArgs_plain (Calls.spliced_cons (len_sizes hg hb G2 hc hl hI hlen fun t tk => Calls.spliced_nil ?_)))
  refine call_range_1 ?_
  refine wpAny_pyIter_range (IsRange.new ..) (small_one (by omega) (by omega) (by omega) (by omega)) ?_
  have e0 : Builtin.Range.rangeSize 0 (xs.length : Int) 1 = (xs.length : Int) := by rw [rangeSize_one]; split <;> omega
  rw [e0]
  have hsub : ∀ {s₃ : Shared} {h₁ : Heap} {o₁ o₂ : Obj}, h₁ = (s.heap.push o₁).push o₂ → (∀ b o, b ∉ [(s.heap.push o₁).objs.size] → h₁.get? b = some o → s₃.heap.get? b = some o) → ∀ b o, s.heap.get? b = some o → s₃.heap.get? b = some o := by
    intro s₃ h₁ o₁ o₂ hh₁ hk b o hbo
    have hlt := Heap.lt_size hbo
    refine hk b o ?_ ?_
    · rw [List.mem_singleton, Heap.size_push]; exact Nat.ne_of_lt (Nat.lt_succ_of_lt hlt)
    · rw [hh₁]; exact Heap.get?_push_of_some _ (Heap.get?_push_of_some _ hbo)
  refine ⟨_, _, _, xs.length, _, _, rfl, (Walks.range hh _ 0 1 xs.length).bound, by rw [sizeLine_eq]; omega, ?_, ?_, ⟨?_, ?_⟩, ?_⟩
  · have q : IsRangeIter ((s.heap.push { cls := .type "range", data := .fields #[.int 0 tk, .int (xs.length : Int) t, .int 1 (tk + 1)] }).push { cls := .type "range_iterator", data := .fields #[rawInt 0, rawInt (xs.length : Int), rawInt 1] }) (s.heap.push { cls := .type "range", data := .fields #[.int 0 tk, .int (xs.length : Int) t, .int 1 (tk + 1)] }).objs.size 0 (xs.length : Int) 1 := Heap.get?_push_size _ rfl
    simpa using q
  · intro b hb'
    rw [List.mem_singleton.mp hb']
    exact Heap.lt_size (Heap.get?_push_size _ rfl)
  · rintro C i v s₃ m₃ E' hC ⟨hi, tv, rfl⟩ hn₃ hx₃ hk₃ htk
    have kk := hsub rfl hk₃
    have hiN : ((0 : Int) + (i : Int) * 1).toNat = i := by omega
    obtain ⟨ti, hv⟩ := hI.get i xs[i] (List.getElem?_eq_getElem hi)
    refine wpAny_tests_one (wpAny_isTrue_Compare1 (Subscript_ (wpAny_Name (wpAny_loadName_cell (c := L + 1) (v := .ref lS) rfl (by rfl) rfl (hc.keeps kk) (wpAny_Name (wpAny_loadName_local rfl (by rfl) hn₃ hx₃ ?_) (by decide))) (by decide))) (by rfl))
    refine tail_any (Heap.IsList.typeIs (Ext.list kk hl)) list_getitem_lookup (wpAny_getItem_list (Ext.list kk hl) (by omega) (by omega) (by rw [hiN]; simpa using hv) ?_) (by with_unfolding_all rfl)
    refine Tuple_ (spliced_more (wpAny_Constant_int (spliced_more (wpAny_Constant_int (spliced_none (wpAny_newObj_type ?_ (by show 2 ≤ sizeLine; rw [sizeLine_eq]; omega)))))))
    refine in_tuple_ints (ns := [0, 127]) ⟨_, Heap.get?_push_size _ rfl, rfl, 0, rfl⟩ (.cons _ _ (.cons _ _ .nil)) (wpAny_truthy_bool ⟨?_, _, _, rfl, fun b o e => Heap.get?_push_of_some _ e⟩)
    show ([0, 127].any (· == xs[i])) = (decide (xs[((0 : Int) + (i : Int) * 1).toNat]? = some 0) || decide (xs[((0 : Int) + (i : Int) * 1).toNat]? = some 127))
    rw [hiN, List.getElem?_eq_getElem hi, Bool.eq_iff_iff]
    simp only [List.any_cons, List.any_nil, Bool.or_false, Bool.or_eq_true, beq_iff_eq, decide_eq_true_eq, Option.some.injEq]
    exact or_congr eq_comm eq_comm
  · rintro C i v s₃ m₃ E' hC ⟨hi, tv, rfl⟩ hp hn₃ hx₃ hk₃ htk
    exact wpAny_Name (wpAny_loadName_local rfl (by rfl) hn₃ hx₃ ⟨rfl, _, _, rfl, fun _ _ e => e⟩) (by decide)
  · intro D h' tk' ys ws hD hl' hpl hlen' hP hF hk'
    have kk : Ext s.heap h' := hsub (s₃ := { s with heap := h' }) rfl hk'
    have hfind := fun t₂ => stop_aux (xs := xs) (t := t₂) ws 0 (fun j v hv => by obtain ⟨_, u, e'⟩ := hP j v hv; exact ⟨u, by rw [e']; congr 1; omega⟩) (by omega) (fun j n hj => absurd hj (Nat.not_lt_zero _))
    have hys : ys.toList = ws.filter (pStop xs) := paired_eq hF
    obtain ⟨nD, hD'⟩ := hpl
    have hyl : ys.size ≤ xs.length := by
      have h1 : ys.toList.length ≤ ws.length := by rw [hys]; exact List.length_filter_le _ _
      rw [hlen'] at h1
      simpa using h1
    refine List_ (spliced_more (len_sizes (s := { s with heap := h', toks := tk' }) (hg.keeps kk) (hb.keeps kk) G2 (hc.keeps kk) (Ext.list kk hl) hI hlen fun t₂ tk₂ => spliced_none (wpAny_newObj_type ?_ (by show 1 ≤ sizeLine; rw [sizeLine_eq]; omega))))
    refine PySem.P.add_list (IsL.push (n := nD) hD' _) (IsL.new h' #[.int (xs.length : Int) t₂]) ?_ (by show ys.size + 1 ≤ sizeLine; rw [sizeLine_eq]; omega)
    obtain ⟨st, ts, hst, hS⟩ := hfind t₂
    have hst' : (ys ++ #[Value.int (xs.length : Int) t₂])[(0 : Int).toNat]? = some (.int st ts) := by
      rw [← hst, ← hys, ← Array.getElem?_toList, Array.toList_append]
      rfl
    refine wpAny_Constant_int (tail_any (Heap.IsList.typeIs (IsL.isList (IsL.new _ _))) list_getitem_lookup (wpAny_getItem_list (IsL.isList (IsL.new _ _)) (by omega) (by omega) hst' ?_) (by with_unfolding_all rfl))
    refine wpAny_storeName_local (env := lEnv L f cd) (name := Str.ofString "stop") rfl (((Ext.ns kk hn).push _).push _) (fun h₃ hn₃ hs₃ => ?_) rfl
    exact hq st ts _ h₃ _ hS hn₃ (fun x hx => if_neg hx) (if_pos rfl) fun b o hb' e' => (hs₃.2 b hb').trans (Heap.get?_push_of_some _ (Heap.get?_push_of_some _ (kk b o e')))
end
end Mine

namespace Mine
def gParams : Arguments := match PySem.Challenge.pw_ko0101_01.main.body with
  | [_, _, .FunctionDef _ p _ _ _ _ _ _ _ _, _, _, _] => p
  | _ => { posonlyargs := [], args := [], vararg := none, kwonlyargs := [], kw_defaults := [], kwarg := none, defaults := [] }

section
variable {prog : Program} {w : World} {A : Around} {E : Value → Shared → Prop} {s : Shared} {L f aF : Addr} {cd cdG pm doc : Value} {oG : Obj} {mg mb : Str → Option Value}

theorem gen_made {p1 p2 p3 : Pos} {x : Str} {v : Value} {Q : Value → Shared → Prop} (hg : s.heap.Ns mainGlobals mg) (hgG : mg gName = some (.ref aF)) (hoG : s.heap.get? aF = some oG)
    (hdG : oG.data = .func (Calls.docDef gName gParams gBody gScope pm cdG doc)) (hcdG : s.heap.CodeRec cdG gName) (hnl : s.heap.NoLimit) (hA : A.depth < recursionLimit)
    (he : ∀ Q' : Value → Shared → Prop, Q' v s → wpAny (model prog w) A (eval (.Name x p3) (lEnv L f cd)) Q' E s)
    (h : ∀ C a h' tk m', s.heap.objs.size ≤ C → C < a → a < h'.objs.size → m' (Str.ofString "grouping") = some v → h'.Ns C m' → h'.IsGen a s.gens.size → Ext s.heap h' →
      Q (.ref a) { s with heap := h', toks := tk, gens := s.gens.push (.fresh (.func gBody (gEnv C aF cdG))) }) :
    wpAny (model prog w) A (eval (.Call (.Name gName p1) [.Name x p3] [] p2) (lEnv L f cd)) Q E s := by
  refine Call_Name1 (Calls.Name_function_global (env := lEnv L f cd) rfl rfl (Calls.loadGlobal_global (env := lEnv L f cd) hg hgG ?_))
  refine callWith_function_kw (o := oG) (fd := Calls.docDef gName gParams gBody gScope pm cdG doc) (Calls.evalArgs_plain (Calls.spliced_cons (he _ (Calls.spliced_nil ⟨⟨hoG, hdG⟩, wpAny_call ?_⟩))))
  refine codeAny_call_generator hA hoG hdG (by rfl) (by rfl) (by rfl) hcdG ?_
  have hbind : bindArgs (Calls.docDef gName gParams gBody gScope pm cdG doc) ⟨[v], []⟩ = pure [(Str.ofString "grouping", v)] := by rfl
  rw [show ([] : List Value) ++ [v] = [v] from rfl, hbind]
  refine wpAny_pure (wpAny_newFunctionEnv (by show ∀ y ∈ gScope.names, y.2 ≠ NameKind.cell; decide +kernel) (by intro y hy; cases hy with | head => rfl | tail _ hy => cases hy) (fun h₁ hn hs => ⟨hnl.fresh _ hs, ?_⟩))
  have hz : h₁.objs.size = s.heap.objs.size + 1 := by rw [hs.1, Heap.size_push]
  have k₁ : Ext s.heap h₁ := fun b o eb => (hs.2 b (Nat.ne_of_lt (Heap.lt_size eb))).trans (Heap.get?_push_of_some _ eb)
  refine h s.heap.objs.size h₁.objs.size _ _ _ (Nat.le_refl _) (by rw [hz]; exact Nat.lt_succ_self _) (Heap.lt_size (Heap.get?_push_size _ rfl)) ?_ (hn.push _) ⟨_, _, _, Heap.get?_push_size _ rfl, rfl, rfl, rfl⟩ (fun b o eb => Heap.get?_push_of_some _ (k₁ b o eb))
  rfl

theorem gen_assign {h₀ : Heap} {m : Str → Option Value} {p1 p2 p3 p4 p5 : Pos} {x y : Str} {v : Value} {Q : Flow → Shared → Prop} (hbase : Ext h₀ s.heap) (hg : h₀.Ns mainGlobals mg) (hgG : mg gName = some (.ref aF)) (hoG : h₀.get? aF = some oG)
    (hdG : oG.data = .func (Calls.docDef gName gParams gBody gScope pm cdG doc)) (hcdG : h₀.CodeRec cdG gName) (hnl : h₀.NoLimit) (hA : A.depth < recursionLimit) (hn : s.heap.Ns L m) (hy : (lEnv L f cd).kindOf y = some .local)
    (he : ∀ Q' : Value → Shared → Prop, Q' v s → wpAny (model prog w) A (eval (.Name x p3) (lEnv L f cd)) Q' E s)
    (h : ∀ C a h' tk m', s.heap.objs.size ≤ C → C < a → a < h'.objs.size → m' (Str.ofString "grouping") = some v → h'.Ns C m' → h'.IsGen a s.gens.size → (∀ b o, b ≠ L → s.heap.get? b = some o → h'.get? b = some o) →
      h'.Ns L (fun z => if z = y then some (.ref a) else m z) →
      Q .next { s with heap := h', toks := tk, gens := s.gens.push (.fresh (.func gBody (gEnv C aF cdG))) }) :
    wpAny (model prog w) A (exec (.Assign [.Name y p4] (.Call (.Name gName p1) [.Name x p3] [] p2) p5) (lEnv L f cd)) Q E s := by
  refine wpAny_Assign_Name (gen_made (Ext.ns hbase hg) hgG (hbase _ _ hoG) hdG (hcdG.keeps hbase) (hnl.keeps hbase) hA he fun C a h' tk m' h1 h2 h3 h4 h5 h6 h7 => ?_)
  have hLs := hn.lt
  have hCL : C ≠ L := Nat.ne_of_gt (Nat.lt_of_lt_of_le hLs h1)
  have haL : a ≠ L := Nat.ne_of_gt (Nat.lt_trans (Nat.lt_of_lt_of_le hLs h1) h2)
  refine wpAny_storeName_local (env := lEnv L f cd) (name := y) hy (Ext.ns h7 hn) (fun h₃ hn₃ hs₃ => ?_) rfl
  refine h C a h₃ _ m' h1 h2 (by rw [hs₃.1]; exact h3) h4 (h5.at' fun o e => (hs₃.2 _ hCL).trans e) ?_ (fun b o hb e => (hs₃.2 b hb).trans (h7 b o e)) hn₃
  obtain ⟨o, nm, qn, ho, r⟩ := h6
  exact ⟨o, nm, qn, (hs₃.2 _ haL).trans ho, r⟩

set_option maxRecDepth 100000 in
set_option maxHeartbeats 4000000 in
theorem gens_ok {h₀ : Heap} {lS : Addr} {m : Str → Option Value} {Q : Flow → Shared → Prop} (hbase : Ext h₀ s.heap) (hLh : h₀.objs.size ≤ L) (hg : h₀.Ns mainGlobals mg) (hgG : mg gName = some (.ref aF)) (hoG : h₀.get? aF = some oG)
    (hdG : oG.data = .func (Calls.docDef gName gParams gBody gScope pm cdG doc)) (hcdG : h₀.CodeRec cdG gName) (hnl : h₀.NoLimit) (hA : A.depth < recursionLimit) (hn : s.heap.Ns L m) (hc : s.heap.IsCell (L + 1) (some (.ref lS))) (hgens : s.gens = #[])
    (h : ∀ C0 a0 C1 a1 C2 a2 lW m' m0 m1 m2 h' tk, s.heap.objs.size ≤ C0 → C0 < a0 → a0 < C1 → C1 < a1 → a1 < C2 → C2 < a2 → a2 < lW → lW < h'.objs.size → h'.Ns L m' →
      (∀ z, z ≠ Str.ofString "first" → z ≠ Str.ofString "second" → z ≠ Str.ofString "walks" → m' z = m z) → m' (Str.ofString "walks") = some (.ref lW) → h'.IsList lW #[.ref a0, .ref a1, .ref a2] →
      h'.IsGen a0 0 → h'.IsGen a1 1 → h'.IsGen a2 2 → h'.Ns C0 m0 → m0 (Str.ofString "grouping") = some (.ref lS) → h'.Ns C1 m1 → m1 (Str.ofString "grouping") = some (.ref a0) → h'.Ns C2 m2 → m2 (Str.ofString "grouping") = some (.ref a1) →
      (∀ b o, b ≠ L → s.heap.get? b = some o → h'.get? b = some o) →
      Q .next { s with heap := h', toks := tk, gens := #[.fresh (.func gBody (gEnv C0 aF cdG)), .fresh (.func gBody (gEnv C1 aF cdG)), .fresh (.func gBody (gEnv C2 aF cdG))] }) :
    wpAny (model prog w) A (execs ((lBody.drop 5).take 3) (lEnv L f cd)) Q E s := by
  have up : ∀ {h₁ : Heap}, (∀ b o, b ≠ L → s.heap.get? b = some o → h₁.get? b = some o) → Ext h₀ h₁ := fun k b o e => k b o (fun q => absurd (Heap.lt_size e) (Nat.not_lt.mpr (q ▸ hLh))) (hbase b o e)
  have hLs := hn.lt
  show wpAny _ _ _ _ _ _
  refine wpAny_execs_cons (gen_assign hbase hg hgG hoG hdG hcdG hnl hA hn (by rfl) (fun _ q => lds hc q) fun C0 a0 h1 t1 m0 p1 p2 p3 p4 p5 p6 p7 p8 => ?_)
  refine wpAny_execs_cons (gen_assign (s := { s with heap := h1, toks := t1, gens := s.gens.push (.fresh (.func gBody (gEnv C0 aF cdG))) }) (up p7) hg hgG hoG hdG hcdG hnl hA p8 (by rfl) (fun _ q => ldv p8 (if_pos rfl) q) fun C1 a1 h2 t2 m1 q1 q2 q3 q4 q5 q6 q7 q8 => ?_)
  have k2 : ∀ b o, b ≠ L → s.heap.get? b = some o → h2.get? b = some o := fun b o hb e => q7 b o hb (p7 b o hb e)
  refine execs_one (wpAny_Assign_Name (List_ (spliced_more (ldv q8 (by rfl) (spliced_more (ldv q8 (by rfl) (spliced_more (gen_made (Ext.ns (up k2) hg) hgG (up k2 _ _ hoG) hdG (hcdG.keeps (up k2)) (hnl.keeps (up k2)) hA (fun _ q => ldv q8 (by rfl) q) fun C2 a2 h3 t3 m2 r1 r2 r3 r4 r5 r6 r7 => spliced_none (wpAny_newObj_type ?_ (by show 3 ≤ sizeLine; rw [sizeLine_eq]; omega))))))))))
  have hC0 : L < C0 := Nat.lt_of_lt_of_le hLs p1
  have z1 : C0 < C1 := Nat.lt_of_lt_of_le (Nat.lt_trans p2 p3) q1
  have z2 : C1 < C2 := Nat.lt_of_lt_of_le (Nat.lt_trans q2 q3) r1
  have nC0 : C0 ≠ L := Nat.ne_of_gt hC0
  have na0 : a0 ≠ L := Nat.ne_of_gt (Nat.lt_trans hC0 p2)
  have nC1 : C1 ≠ L := Nat.ne_of_gt (Nat.lt_trans hC0 z1)
  have na1 : a1 ≠ L := Nat.ne_of_gt (Nat.lt_trans (Nat.lt_trans hC0 z1) q2)
  have nC2 : C2 ≠ L := Nat.ne_of_gt (Nat.lt_trans (Nat.lt_trans hC0 z1) z2)
  have na2 : a2 ≠ L := Nat.ne_of_gt (Nat.lt_trans (Nat.lt_trans (Nat.lt_trans hC0 z1) z2) r2)
  have nW : h3.objs.size ≠ L := Nat.ne_of_gt (Nat.lt_trans (Nat.lt_trans (Nat.lt_trans (Nat.lt_trans hC0 z1) z2) r2) r3)
  refine wpAny_storeName_local (env := lEnv L f cd) (name := Str.ofString "walks") rfl ((Ext.ns r7 q8).push _) (fun h4 hn4 hs4 => ?_) rfl
  have k4 : ∀ b o, b ≠ L → h3.get? b = some o → h4.get? b = some o := fun b o hb e => (hs4.2 b hb).trans (Heap.get?_push_of_some _ e)
  have k3 : ∀ b o, b ≠ L → h2.get? b = some o → h4.get? b = some o := fun b o hb e => k4 b o hb (r7 b o e)
  have k1 : ∀ b o, b ≠ L → h1.get? b = some o → h4.get? b = some o := fun b o hb e => k3 b o hb (q7 b o hb e)
  have ig : ∀ {hh : Heap} {a g}, hh.IsGen a g → (∀ o, hh.get? a = some o → h4.get? a = some o) → h4.IsGen a g := fun ⟨o, nm, qn, ho, r⟩ k => ⟨o, nm, qn, k _ ho, r⟩
  have e0 : s.gens.size = 0 := by rw [hgens]; rfl
  have e1 : (s.gens.push (.fresh (.func gBody (gEnv C0 aF cdG)))).size = 1 := by rw [Array.size_push, e0]
  have e2 : ((s.gens.push (.fresh (.func gBody (gEnv C0 aF cdG)))).push (.fresh (.func gBody (gEnv C1 aF cdG)))).size = 2 := by rw [Array.size_push, e1]
  have eg : ((s.gens.push (.fresh (.func gBody (gEnv C0 aF cdG)))).push (.fresh (.func gBody (gEnv C1 aF cdG)))).push (.fresh (.func gBody (gEnv C2 aF cdG))) = #[.fresh (.func gBody (gEnv C0 aF cdG)), .fresh (.func gBody (gEnv C1 aF cdG)), .fresh (.func gBody (gEnv C2 aF cdG))] := by
    rw [hgens]; rfl
  have fin := h C0 a0 C1 a1 C2 a2 h3.objs.size _ m0 m1 m2 h4 (t3 + 1) p1 p2 (Nat.lt_of_lt_of_le p3 q1) q2 (Nat.lt_of_lt_of_le q3 r1) r2 r3 (by rw [hs4.1, Heap.size_push]; exact Nat.lt_succ_self _) hn4
    (fun z za zb zc => by simp [za, zb, zc]) (if_pos rfl) ⟨_, (hs4.2 _ nW).trans (Heap.get?_push_size _ rfl), rfl, 0, rfl⟩
    (ig (e0 ▸ p6) fun o e => k1 _ o na0 e) (ig (e1 ▸ q6) fun o e => k3 _ o na1 e) (ig (e2 ▸ r6) fun o e => k4 _ o na2 e)
    (p5.at' fun o e => k1 _ o nC0 e) p4 (q5.at' fun o e => k3 _ o nC1 e) q4 (r5.at' fun o e => k4 _ o nC2 e) r4 (fun b o hb e => k1 b o hb (p7 b o hb e))
  rw [← eg] at fin
  exact fin
end
end Mine

namespace Mine
section
variable {prog : Program} {w : World} {A : Around} {E : Value → Shared → Prop} {s : Shared} {h₀ : Heap} {aF fA lS lK lW L f IR : Addr} {Bd : Nat} {cdG cdA cd pm doc : Value} {oA : Obj} {os₀ : OsState} {L0 L1 L2 : Lv} {vs us : List Value} {xs ks : List Int} {mg mb : Str → Option Value} {st k : Nat} {ts tk : Tok} {m : Str → Option Value}

theorem LInv.at {h' : Heap} {tk' : Nat} (K : LCon h₀ Bd L0 L1 L2 lS lK lW L IR) (hlt : ∀ b ∈ [L0.C, L1.C, L2.C, L0.a, L1.a, L2.a, lS, lK, lW, L, L + 1], b < IR)
    (I : LInv prog w h₀ Bd aF cdG L0 L1 L2 lS lK lW L IR vs us xs st ts os₀ k m s) (hk : ∀ b o, b ≠ IR → s.heap.get? b = some o → h'.get? b = some o) (ht : ∃ o, h'.get? IR = some o) :
    LInv prog w h₀ Bd aF cdG L0 L1 L2 lS lK lW L IR vs us xs st ts os₀ k m { s with heap := h', toks := tk' } := by
  have ne : ∀ b ∈ [L0.C, L1.C, L2.C, L0.a, L1.a, L2.a, lS, lK, lW, L, L + 1], b ≠ IR := fun b hb => Nat.ne_of_lt (hlt b hb)
  have hIR : h₀.objs.size ≤ IR := Nat.le_trans K.low (Nat.le_of_lt (hlt L (by simp)))
  have gen : ∀ {a g}, a ∈ [L0.C, L1.C, L2.C, L0.a, L1.a, L2.a, lS, lK, lW, L, L + 1] → s.heap.IsGen a g → h'.IsGen a g := fun ha ⟨o, nm, qn, ho, r⟩ => ⟨o, nm, qn, hk _ _ (ne _ ha) ho, r⟩
  have lst : ∀ {l a}, l ∈ [L0.C, L1.C, L2.C, L0.a, L1.a, L2.a, lS, lK, lW, L, L + 1] → s.heap.IsList l a → h'.IsList l a := fun hl ⟨o, ho, r⟩ => ⟨o, hk _ _ (ne _ hl) ho, r⟩
  refine ⟨fun b o e => hk b o (fun q => absurd (Heap.lt_size e) (Nat.not_lt.mpr (q ▸ hIR))) (I.base b o e), I.ns.at' fun o e => hk _ o (ne _ (by simp)) e, I.msteps, I.mstop, I.mwalks,
    (let ⟨o, ho, r⟩ := I.cell; ⟨o, hk _ _ (ne _ (by simp)) ho, r⟩), lst (by simp) I.list, lst (by simp) I.listK, lst (by simp) I.listW,
    gen (by simp) I.gen0, gen (by simp) I.gen1, gen (by simp) I.gen2, I.g0, I.g1, I.g2, I.inv.ext (fun b o q e => hk b o ?_ e) rfl, ht, I.os⟩
  rcases q with rfl | rfl | rfl | ⟨h1, _⟩
  · exact ne _ (by simp)
  · exact ne _ (by simp)
  · exact ne _ (by simp)
  · exact fun q => h1 (by rw [q, K.top]; exact Nat.lt_succ_self _)

theorem len_steps {p1 p2 p3 : Pos} {Q : Value → Shared → Prop} (hg : s.heap.Ns mainGlobals mg) (hb : s.heap.Ns builtinsNs mb) (G2 : Glo2 mg mb) (hn : s.heap.Ns L m) (hm : m (Str.ofString "steps") = some (.ref lK)) (hl : s.heap.IsList lK us.toArray) (hI : IntsAre us ks) (hlen : ks.length ≤ 75)
    (h : ∀ t tk, Q (.int ks.length t) { s with toks := tk }) :
    wpAny (model prog w) A (eval (.Call (.Name (Str.ofString "len") p1) [.Name (Str.ofString "steps") p2] [] p3) (lEnv L f cd)) Q E s := by
  have e : us.toArray.size = ks.length := by rw [List.size_toArray, hI.length]
  refine Call_Name1 (Calls.Name_function_global (env := lEnv L f cd) rfl rfl (Calls.loadGlobal_builtin (env := lEnv L f cd) hg G2.l hb G2.l' ?_))
  refine Calls.callWith_builtin rfl (Calls.evalArgs_plain (Calls.spliced_cons (ldv hn hm (Calls.spliced_nil (Calls.call_len_list hl (by rw [e]; omega) ?_)))))
  rw [e]
  exact h _ _

set_option maxRecDepth 100000 in
set_option maxHeartbeats 4000000 in
theorem loop_ok {Q : Flow → Shared → Prop} (G : Glo h₀ mg mb) (G2 : Glo2 mg mb) (hask : mg (Str.ofString "_law_ask") = some (.ref fA)) (hoA : h₀.get? fA = some oA) (hdA : oA.data = .func (Calls.docDef aName aParams aBody aScope pm cdA doc)) (hcdA : h₀.CodeRec cdA aName)
    (hA : AOk A [lEnv L f cd] 20) (hbase : Ext h₀ s.heap) (hn : s.heap.Ns L m) (hm : m (Str.ofString "steps") = some (.ref lK)) (hlK : s.heap.IsList lK us.toArray)
    (hI : IntsAre vs xs) (hIk : IntsAre us ks) (hks : ∀ (j : Nat) (n : Int), ks[j]? = some n → 0 ≤ n ∧ n < 3) (hs : IsStop xs st) (hlen : xs.length ≤ 63) (hklen : ks.length ≤ 75)
    (hlt : ∀ b ∈ [L0.C, L1.C, L2.C, L0.a, L1.a, L2.a, lS, lK, lW, L, L + 1], b < s.heap.objs.size)
    (K : LCon h₀ (s.heap.objs.size + 2) L0 L1 L2 lS lK lW L (s.heap.objs.size + 1))
    (I0 : ∀ h' tk, Ext s.heap h' → (∃ o, h'.get? (s.heap.objs.size + 1) = some o) → LInv prog w h₀ (s.heap.objs.size + 2) aF cdG L0 L1 L2 lS lK lW L (s.heap.objs.size + 1) vs us xs st ts os₀ 0 m { s with heap := h', toks := tk })
    (hq : ∀ s', Ext h₀ s'.heap → s'.os = os₀ → (∀ (i : Nat) (x : GenState), s'.gens[i]? = some x → x.bare = true) → Q (.ret (.bool true)) s') :
    wpAny (model prog w) A (execs (lBody.drop 8) (lEnv L f cd)) Q E s := by
  show wpAny _ _ _ _ _ _
  refine wpAny_execs_cons (wpAny_For (Call_Name1 (Calls.Name_function_global (env := lEnv L f cd) rfl rfl (Calls.loadGlobal_builtin (env := lEnv L f cd) (Ext.ns hbase G.g) G2.r (Ext.ns hbase G.b) G2.r' ?_))))
  refine PyProof.Rows.callWith_type rfl (Calls.evalArgs_plain (Calls.spliced_cons (len_steps (Ext.ns hbase G.g) (Ext.ns hbase G.b) G2 hn hm hlK hIk hklen fun t tk => Calls.spliced_nil ?_)))
  refine call_range_1 ?_
  refine wpAny_pyIter_range (IsRange.new ..) (small_one (by omega) (by omega) (by omega) (by omega)) ?_
  have e0 : Builtin.Range.rangeSize 0 (ks.length : Int) 1 = (ks.length : Int) := by rw [rangeSize_one]; split <;> omega
  rw [e0]
  have x₁ : Ext s.heap ((s.heap.push { cls := .type "range", data := .fields #[.int 0 tk, .int (ks.length : Int) t, .int 1 (tk + 1)] }).push { cls := .type "range_iterator", data := .fields #[rawInt 0, rawInt (ks.length : Int), rawInt 1] }) :=
    fun b o e => Heap.get?_push_of_some _ (Heap.get?_push_of_some _ e)
  have eI : (s.heap.push { cls := .type "range", data := .fields #[.int 0 tk, .int (ks.length : Int) t, .int 1 (tk + 1)] }).objs.size = s.heap.objs.size + 1 := Heap.size_push _ _
  have q : IsRangeIter ((s.heap.push { cls := .type "range", data := .fields #[.int 0 tk, .int (ks.length : Int) t, .int 1 (tk + 1)] }).push { cls := .type "range_iterator", data := .fields #[rawInt 0, rawInt (ks.length : Int), rawInt 1] }) (s.heap.push { cls := .type "range", data := .fields #[.int 0 tk, .int (ks.length : Int) t, .int 1 (tk + 1)] }).objs.size 0 (ks.length : Int) 1 := Heap.get?_push_size _ rfl
  show codeAny _ _ (.forLoop _ (.ref (s.heap.push { cls := .type "range", data := .fields #[.int 0 tk, .int (ks.length : Int) t, .int 1 (tk + 1)] }).objs.size) _ _ _) _ _
  rw [eI] at q ⊢
  generalize hIR : s.heap.objs.size + 1 = IR at *
  have hB : s.heap.objs.size + 2 = IR + 1 := by omega
  rw [hB] at K I0
  have hlt' : ∀ b ∈ [L0.C, L1.C, L2.C, L0.a, L1.a, L2.a, lS, lK, lW, L, L + 1], b < IR := fun b hb => by rw [← hIR]; exact Nat.lt_succ_of_lt (hlt b hb)
  have hIL : IR ≠ L := Nat.ne_of_gt (hlt' L (by simp))
  have hIB : h₀.objs.size ≤ IR := Nat.le_trans K.low (Nat.le_of_lt (hlt' L (by simp)))
  refine codeAny_forLoop (fun n s' => ∃ k m', k ≤ ks.length ∧ n = ks.length + 1 - k ∧ IsRangeIter s'.heap IR (k : Nat) ((ks.length : Int) - (k : Nat)) 1 ∧ LInv prog w h₀ (IR + 1) aF cdG L0 L1 L2 lS lK lW L IR vs us xs st ts os₀ k m' s') ?_ (ks.length + 1)
    ⟨0, m, Nat.zero_le _, rfl, by simpa using q, I0 _ _ x₁ ⟨_, q⟩⟩
  rintro n s' ⟨k, m', hk, rfl, hit, I⟩
  by_cases hkl : k < ks.length
  · refine wpAny_pyNext_range_item hit (by omega) fun h₁ hit₁ hs₁ => ?_
    have I₁ := I.at (tk' := s'.toks + 1) K hlt' (fun b o hb e => (hs₁.2 b hb).trans e) ⟨_, hit₁⟩
    refine wpAny_assign_Name (wpAny_storeName_local (env := lEnv L f cd) rfl I₁.ns (fun h₂ hn₂ hs₂ => ?_) rfl)
    have I₂ := I₁.step (tk' := s'.toks + 1 + 1) K (fun b o hb e => (hs₂.2 b hb).trans e) hn₂ (fun x hx => if_neg (by rcases hx with rfl | rfl | rfl <;> decide))
    refine wpAny_mono (turn_ok G hask hoA hdA hcdA K hA I₂ (if_pos rfl) hkl hI hIk hks hs hlen hklen) (fun fl s₃ h₃ => ?_) fun _ _ e => e.elim
    obtain ⟨rfl, m'', I₃, hkeep⟩ := h₃
    refine ⟨ks.length + 1 - (k + 1), by omega, k + 1, m'', hkl, rfl, ?_, I₃⟩
    have e1 : ((k + 1 : Nat) : Int) = (k : Int) + 1 := by omega
    have e2 : (ks.length : Int) - ((k : Int) + 1) = (ks.length : Int) - (k : Int) - 1 := by omega
    rw [e1, e2]
    have hT := K.topA
    simp only [List.mem_cons, List.not_mem_nil, or_false, not_or] at hT
    exact hkeep IR _ (Nat.lt_succ_self _) (by simp [hT.1, hT.2.1, hT.2.2.1]) hIL ((hs₂.2 IR hIL).trans hit₁)
  · have hkk : k = ks.length := by omega
    subst hkk
    refine wpAny_pyNext_range_end hA.handled hit (by omega) fun h₁ he₁ => wpAny_execs_nil ?_
    refine wpAny_execs_cons (wpAny_Return_some (wpAny_Constant_bool ?_))
    exact hq _ (fun b o e => he₁ b o (fun q => absurd (Heap.lt_size e) (Nat.not_lt.mpr (q ▸ hIB))) (I.base b o e)) I.os I.inv.bare
end
end Mine

namespace Mine
section
variable {prog : Program} {w : World} {A : Around} {E : Value → Shared → Prop} {s : Shared} {h₀ : Heap} {aF fA lS lK L f : Addr} {cdG cdA cd pm pmG doc docG : Value} {oA oG : Obj} {os₀ : OsState} {vs us : List Value} {xs ks : List Int} {mg mb : Str → Option Value} {m : Str → Option Value}

theorem nums {h0 L C0 a0 C1 a1 C2 a2 lW lS lK z1 z : Nat} (hL : h0 ≤ L) (zL : L < z1) (zc : L + 1 < z1) (zS : lS < z1) (zK : lK < z1) (p1 : z1 ≤ C0) (p2 : C0 < a0) (p3 : a0 < C1) (p4 : C1 < a1) (p5 : a1 < C2) (p6 : C2 < a2) (p7 : a2 < lW) (p8 : lW < z)
    (hS : lS ≠ L) (hK : lK ≠ L) :
    z + 1 ∉ [C0, C1, C2, L] ∧ (∀ b ∈ [C0, C1, C2], h0 ≤ b) ∧ (∀ b ∈ [C0, C1, C2, a0, a1, a2, lS, lK, lW, L, L + 1], b < z) ∧ [C0, C1, C2, a0, a1, a2, lS].Nodup ∧
      (∀ b ∈ [L, L + 1, lK, lW], b ∉ [C0, C1, C2, a0, a1, a2]) ∧ (∀ b ∈ [L + 1, lS, lK, lW], b ≠ L) := by
  refine ⟨?_, ?_, ?_, ?_, ?_, ?_⟩
  · simp only [List.mem_cons, List.not_mem_nil, or_false, not_or]; omega
  · intro b hb; simp only [List.mem_cons, List.not_mem_nil, or_false] at hb; omega
  · intro b hb; simp only [List.mem_cons, List.not_mem_nil, or_false] at hb; omega
  · simp only [List.nodup_cons, List.mem_cons, List.not_mem_nil, or_false, not_or, not_false_eq_true, List.nodup_nil, and_true]; omega
  · intro b hb; simp only [List.mem_cons, List.not_mem_nil, or_false, not_or] at hb ⊢; omega
  · intro b hb; simp only [List.mem_cons, List.not_mem_nil, or_false] at hb; omega

set_option maxRecDepth 100000 in
set_option maxHeartbeats 4000000 in
theorem rest_ok {Q : Flow → Shared → Prop} (G : Glo h₀ mg mb) (G2 : Glo2 mg mb) (hask : mg (Str.ofString "_law_ask") = some (.ref fA)) (hoA : h₀.get? fA = some oA) (hdA : oA.data = .func (Calls.docDef aName aParams aBody aScope pm cdA doc)) (hcdA : h₀.CodeRec cdA aName)
    (hgG : mg gName = some (.ref aF)) (hoG : h₀.get? aF = some oG) (hdG : oG.data = .func (Calls.docDef gName gParams gBody gScope pmG cdG docG)) (hcdG : h₀.CodeRec cdG gName) (hnl : h₀.NoLimit)
    (hA : AOk A [lEnv L f cd] 20) (hLh : h₀.objs.size ≤ L) (hbase : Ext h₀ s.heap) (hn : s.heap.Ns L m) (hm : m (Str.ofString "steps") = some (.ref lK)) (hlK : s.heap.IsList lK us.toArray)
    (hc : s.heap.IsCell (L + 1) (some (.ref lS))) (hl : s.heap.IsList lS vs.toArray) (hgens : s.gens = #[])
    (hI : IntsAre vs xs) (hIk : IntsAre us ks) (hks : ∀ (j : Nat) (n : Int), ks[j]? = some n → 0 ≤ n ∧ n < 3) (hlen : xs.length ≤ 63) (hklen : ks.length ≤ 75)
    (hq : ∀ s', Ext h₀ s'.heap → s'.os = s.os → (∀ (i : Nat) (x : GenState), s'.gens[i]? = some x → x.bare = true) → Q (.ret (.bool true)) s') :
    wpAny (model prog w) A (execs (lBody.drop 4) (lEnv L f cd)) Q E s := by
  have nsList : ∀ {h : Heap} {b mm l a}, h.Ns b mm → h.IsList l a → l ≠ b := fun ⟨o, es, ep, ho, hd, _⟩ ⟨o', ho', _, n, hd'⟩ q => by
    subst q; rw [ho] at ho'; cases ho'; rw [hd] at hd'; cases hd'
  have hlL : lS ≠ L := nsList hn hl
  refine execs_splitN 1 ?_
  refine execs_one (stop_ok hA.handled (Ext.ns hbase G.g) (Ext.ns hbase G.b) G2 hn hc hl hlL hI hlen fun st ts m₁ h₁ t₁ hS hn₁ hm₁ hst₁ k₁ => Rest.mk ?_)
  have cL : L + 1 ≠ L := Nat.succ_ne_self L
  have hlKL : lK ≠ L := nsList hn hlK
  have b₁ : Ext h₀ h₁ := fun b o e => k₁ b o (fun q => absurd (Heap.lt_size e) (Nat.not_lt.mpr (q ▸ hLh))) (hbase b o e)
  have c₁ : h₁.IsCell (L + 1) (some (.ref lS)) := let ⟨o, ho, r⟩ := hc; ⟨o, k₁ _ _ cL ho, r⟩
  have l₁ : h₁.IsList lS vs.toArray := let ⟨o, ho, r⟩ := hl; ⟨o, k₁ _ _ hlL ho, r⟩
  have lK₁ : h₁.IsList lK us.toArray := let ⟨o, ho, r⟩ := hlK; ⟨o, k₁ _ _ hlKL ho, r⟩
  show wpAny _ _ (execs (lBody.drop 5) _) _ _ _
  refine execs_splitN 3 ?_
  refine gens_ok (s := { s with heap := h₁, toks := t₁ }) b₁ hLh G.g hgG hoG hdG hcdG hnl (by have := hA.depth; omega) hn₁ c₁ hgens
    fun C0 a0 C1 a1 C2 a2 lW m₂ n0 n1 n2 h₂ t₂ p1 p2 p3 p4 p5 p6 p7 p8 hn₂ hm₂ hw₂ hlW g0 g1 g2 f0 e0 f1 e1 f2 e2 k₂ => Rest.mk ?_
  show wpAny _ _ (execs (lBody.drop 8) _) _ _ _
  have b₂ : Ext h₀ h₂ := fun b o e => k₂ b o (fun q => absurd (Heap.lt_size e) (Nat.not_lt.mpr (q ▸ hLh))) (b₁ b o e)
  have c₂ : h₂.IsCell (L + 1) (some (.ref lS)) := let ⟨o, ho, r⟩ := c₁; ⟨o, k₂ _ _ cL ho, r⟩
  have l₂ : h₂.IsList lS vs.toArray := let ⟨o, ho, r⟩ := l₁; ⟨o, k₂ _ _ hlL ho, r⟩
  have lK₂ : h₂.IsList lK us.toArray := let ⟨o, ho, r⟩ := lK₁; ⟨o, k₂ _ _ hlKL ho, r⟩
  have zL : L < h₁.objs.size := hn₁.lt
  have zc : L + 1 < h₁.objs.size := Heap.lt_size c₁.choose_spec.1
  have zS : lS < h₁.objs.size := Heap.lt_size l₁.choose_spec.1
  have zK : lK < h₁.objs.size := Heap.lt_size lK₁.choose_spec.1
  have p1' : h₁.objs.size ≤ C0 := p1
  obtain ⟨q1, q2, q3, q4, q5, q6⟩ := nums hLh zL zc zS zK p1' p2 p3 p4 p5 p6 p7 p8 hlL hlKL
  have K : LCon h₀ (h₂.objs.size + 2) ⟨a0, C0, 0⟩ ⟨a1, C1, 1⟩ ⟨a2, C2, 2⟩ lS lK lW L (h₂.objs.size + 1) :=
    ⟨rfl, q1, hnl, hLh, q2, fun b hb => Nat.lt_succ_of_lt (Nat.lt_succ_of_lt (q3 b hb)), q4, q5, q6, by simp⟩
  have mm : ∀ z, z = Str.ofString "steps" ∨ z = Str.ofString "stop" → m₂ z = m₁ z := fun z hz => hm₂ z (by rcases hz with rfl | rfl <;> decide) (by rcases hz with rfl | rfl <;> decide) (by rcases hz with rfl | rfl <;> decide)
  have ms : m₂ (Str.ofString "steps") = some (.ref lK) := (mm _ (.inl rfl)).trans ((hm₁ _ (by decide)).trans hm)
  refine loop_ok (ts := ts) (aF := aF) (cdG := cdG) (os₀ := s.os) (L0 := ⟨a0, C0, 0⟩) (L1 := ⟨a1, C1, 1⟩) (L2 := ⟨a2, C2, 2⟩) G G2 hask hoA hdA hcdA hA b₂ hn₂ ms lK₂ hI hIk hks hS hlen hklen q3 K (fun h' tk x ht => ?_) hq
  have ext : ∀ {b o}, h₂.get? b = some o → h'.get? b = some o := fun e => x _ _ e
  refine ⟨fun b o e => x b o (b₂ b o e), Ext.ns x hn₂, ms, (mm _ (.inr rfl)).trans hst₁, hw₂, c₂.keeps x, Ext.list x l₂, Ext.list x lK₂, Ext.list x hlW, g0.keeps x, g1.keeps x, g2.keeps x, by simp, by simp, by simp, ⟨?_, ⟨false, false, ?_, ?_, .inl ⟨rfl, rfl⟩⟩, ?_⟩, ht, rfl⟩
  · have ep : phase vs xs st 0 = .run 0 := if_pos (Nat.zero_le _)
    rw [ep]
    exact .inl ⟨rfl, rfl, n0, Ext.ns x f0, e0⟩
  · exact .inl ⟨rfl, n1, Ext.ns x f1, e1⟩
  · exact .inl ⟨rfl, n2, Ext.ns x f2, e2⟩
  · intro i y hy
    match i, hy with
    | 0, hy => cases hy; rfl
    | 1, hy => cases hy; rfl
    | 2, hy => cases hy; rfl
    | i + 3, hy => exact absurd hy (by simp)
end
end Mine

namespace Mine

theorem glo_of {p : Program} {loose : List Str} {mean : ExcName → Option Value} {mg mb : Str → Option Value} {h : Heap} (T : Top p loose mean mg mb h) (hv : valOf p (Str.ofString "CHAR_MAX") = some (.int 127))
    (hf : ∀ x ∈ [Str.ofString "ValueError", Str.ofString "range", Str.ofString "len"], x ∉ startupNames ∧ x ∉ loose ∧ x ∉ (recsOf p).map (·.name) ∧ x ∉ (litsOf p).map (·.1) ∧ x ∉ (clssOf p loose).map (·.name)) :
    Glo h mg mb ∧ Glo2 mg mb := by
  have fr : ∀ x ∈ [Str.ofString "ValueError", Str.ofString "range", Str.ofString "len"], mg x = none := fun x hx => let ⟨a, b, c, d, e⟩ := hf x hx; T.free x a b c d e
  obtain ⟨v, hm, hr⟩ := T.const _ _ hv
  refine ⟨⟨T.g, T.b, ?_, fr _ (by simp), (T.builtins _ (by decide)).trans ?_⟩, ⟨fr _ (by simp), (T.builtins _ (by decide)).trans ?_, fr _ (by simp), (T.builtins _ (by decide)).trans ?_⟩⟩
  · have := hr h
    cases this with
    | int _ t => exact ⟨t, hm⟩
  · exact PyProof.Rows.Boot.«ValueError»
  · exact PyProof.Rows.Boot.«range»
  · exact PyProof.Rows.Boot.«len»

theorem fn_of {p : Program} {loose : List Str} {mean : ExcName → Option Value} {mg mb : Str → Option Value} {h : Heap} {name : Str} {params : Arguments} {body : List Stmt} {scope : Scope} (T : Top p loose mean mg mb h) (i : Nat)
    (hi : ((recsOf p)[i]?.map fun d => (d.name, d.params, d.body, d.scope)) = some (name, params, body, scope)) :
    ∃ a o pm cd doc, mg name = some (.ref a) ∧ h.get? a = some o ∧ o.data = .func (Calls.docDef name params body scope pm cd doc) ∧ h.CodeRec cd name := by
  cases hd : (recsOf p)[i]? with
  | none => rw [hd] at hi; cases hi
  | some d =>
    rw [hd] at hi
    cases hi
    exact T.fn d (List.mem_of_getElem? hd)
end Mine

namespace Mine
/-- the law's end -/
structure GoodM (s₁ : Shared) (r : Result) (s' : Shared) : Prop where
  res : r = .ok (.ret (.bool true))
  keep : Ext s₁.heap s'.heap
  os : s'.os = s₁.os
  bare : ∀ (i : Nat) (x : GenState), s'.gens[i]? = some x → x.bare = true

theorem GoodM.toG {c : ClaimW} {cl : Str → Option Addr} {mean : ExcName → Option Value} {args : List WData} {s₁ s' : Shared} {r : Result} (hr : ∀ cls, c.raises args cls = false) (hp : c.post args (.bool true) args = true) (g : GoodM s₁ r s') :
    GoodWG c cl mean args s₁ r s' := by
  obtain ⟨rfl, hk, ho, hb⟩ := g
  refine ⟨.inl ⟨_, _, [], rfl, hr, ReadsW.bool true, hp, fun _ => ⟨List.nodup_nil, fun _ hm => (nomatch hm)⟩⟩, .of_keep hk, ho, fun y hy => ?_⟩
  obtain ⟨i, hi, rfl⟩ := Array.getElem_of_mem hy
  exact hb i _ (Array.getElem?_eq_getElem hi)
end Mine

namespace Mine
theorem ks_ok (ns : List Int) : ∀ (j : Nat) (n : Int), (ns.map (fun k => k.fmod 3) ++ [0, 1, 2, 2, 1, 0, 0, 2, 1, 1, 0, 2])[j]? = some n → 0 ≤ n ∧ n < 3 := by
  intro j n h
  have hm := List.mem_of_getElem? h
  rcases List.mem_append.mp hm with h1 | h1
  · obtain ⟨k, _, rfl⟩ := List.mem_map.mp h1
    exact ⟨Int.fmod_nonneg_of_pos _ (by decide), Int.fmod_lt_of_pos _ (by decide)⟩
  · simp only [List.mem_cons, List.not_mem_nil, or_false] at h1
    omega

theorem ks_len (ns : List Int) (h : ns.length ≤ 63) : (ns.map (fun k : Int => k.fmod 3) ++ [0, 1, 2, 2, 1, 0, 0, 2, 1, 1, 0, 2]).length ≤ 75 := by
  rw [List.length_append, List.length_map]
  show ns.length + 12 ≤ 75
  omega

theorem law_around (env : Env) : AOk (callerA.deeper env) [env] 20 :=
  ⟨rfl, rfl, by show 1 + claimMargin + 1 + 20 < recursionLimit; decide +kernel, by show 4 + 3 + 20 * 20 < cLine; decide +kernel⟩

section
variable {prog : Program} {w : World} {E : Value → Shared → Prop}
theorem rest_top {p : Program} {loose : List Str} {mean : ExcName → Option Value} {mg mb m : Str → Option Value} {s₁ s : Shared} {news : List (Addr × Obj)} {oc oK oS : Obj} {lS lK fa : Addr} {cd : Value} {vs us : List Value} {xs ks : List Int} {b : List Stmt} {sc : Scope}
    {Q : Flow → Shared → Prop} (hb : b = lBody.drop 4) (hsc : sc = lScope)
    (T : Top p loose mean mg mb s₁.heap) (hv : valOf p (Str.ofString "CHAR_MAX") = some (.int 127))
    (hf : ∀ x ∈ [Str.ofString "ValueError", Str.ofString "range", Str.ofString "len"], x ∉ startupNames ∧ x ∉ loose ∧ x ∉ (recsOf p).map (·.name) ∧ x ∉ (litsOf p).map (·.1) ∧ x ∉ (clssOf p loose).map (·.name))
    (h0 : ((recsOf p)[0]?.map fun d => (d.name, d.params, d.body, d.scope)) = some (gName, gParams, gBody, gScope))
    (h1 : ((recsOf p)[1]?.map fun d => (d.name, d.params, d.body, d.scope)) = some (aName, aParams, aBody, aScope))
    (hgens : s₁.gens = #[]) (hsg : s.gens = s₁.gens) (hso : s.os = s₁.os) (F : Fr s₁.heap s₁.heap.objs.size s.heap m) (N : News s₁.heap s₁.heap.objs.size s.heap news) (hm : m (Str.ofString "steps") = some (.ref lK))
    (nc : (s₁.heap.objs.size + 1, oc) ∈ news) (hd : oc.data = .cell (some (.ref lS))) (nS : (lS, oS) ∈ news) (nK : (lK, oK) ∈ news) (hS : oS.cls = .type "list" ∧ ∃ n, oS.data = .seq vs.toArray n) (hK : oK = W.listOf us.toArray 0)
    (hI : IntsAre vs xs) (hIk : IntsAre us ks) (hks : ∀ (j : Nat) (n : Int), ks[j]? = some n → 0 ≤ n ∧ n < 3) (hlen : xs.length ≤ 63) (hklen : ks.length ≤ 75)
    (hq : ∀ s', GoodM s₁ (.ok (.ret (.bool true))) s' → Q (.ret (.bool true)) s') :
    Rest (wpAny (model prog w) (callerA.deeper (envOfC (Str.ofString "law") sc s₁.heap.objs.size fa cd)) (execs b (envOfC (Str.ofString "law") sc s₁.heap.objs.size fa cd)) Q E s) := by
  subst hb hsc
  obtain ⟨MG, MG2⟩ := glo_of T hv hf
  obtain ⟨aF, oG, pmG, cdG, docG, hgG, hoG, hdG, hcdG⟩ := fn_of (name := gName) (params := gParams) (body := gBody) (scope := gScope) T 0 h0
  obtain ⟨fA, oA, pmA, cdA, docA, hask, hoA, hdA, hcdA⟩ := fn_of (name := aName) (params := aParams) (body := aBody) (scope := aScope) T 1 h1
  refine Rest.mk (rest_ok MG MG2 hask hoA hdA hcdA hgG hoG hdG hcdG T.nolimit (law_around _) (Nat.le_refl _) F.keep F.ns hm ⟨_, (N _ nK).1, by rw [hK], 0, by rw [hK]⟩ ⟨_, (N _ nc).1, hd⟩ ⟨_, (N _ nS).1, hS.1, hS.2⟩
    (hsg.trans hgens) hI hIk hks hlen hklen fun s' k1 k2 k3 => hq s' ⟨rfl, k1, k2.trans hso, k3⟩)
end
end Mine

local macro_rules
  | `(tactic| k_go0) => `(tactic| (
    k_fill
    intro w s₀ s₁ mg mb G Y fa o pm cd doc dV kV ho hd hcd hD hmg hg args vals as hpre hlay hrd hwl hlo
    have KX := kIn_of Y
    have X := (Ground.X G).1
    have V := (Ground.X G).2
    try w_nolog (first | (have GL := glob_more (Ground.glob G (by first | k_qdec | decide +kernel) (by first | k_qdec | decide +kernel)) V) | (have GL := glob_more (Ground.glob G (by decide +kernel)) V))
    refine Ground.open G ?_
    intro T B D TE TW
    try (refine guard_noD D (by decide +kernel) ?_; clear D)
    obtain ⟨_, _, M⟩ := bmod_of_top T
    have TA := at_of_top T
    try (obtain ⟨_, _, he, B0⟩ := based_of_top T rfl hmg ho hd; have he' : cd = _ := he; subst he'; clear he)
    clear hmg
    wrow_args hpre hlay hrd hwl hlo
    all_goals (
      first | refine callC_kw (enter_call ?_) | refine enter_call ?_ | refine callC_kw (enter_callW ?_) | refine enter_callW ?_ | w_how
      w_top on
      refine codeAny_mono ?_ (fun _ _ g => Mine.GoodM.toG (fun _ => rfl) (by first | rfl | wrow_post) g)
      have K0 := below_caller (Top.heap T)
      w_call any ho hd hcd hD T F
      clear hd TA
      k_drop
      skip)))
set_option maxRecDepth 100000 in
set_option maxHeartbeats 8000000 in
theorem PySem.Challenge.cw_ko0101_01_holds : PySem.Challenge.rw_ko0101_01.Holds := by
  w_on
  o_law
  k_head
  (case hw => w_witness2)
  w_strict (
    k_go0
    (all_goals try k_fold)
    refine Mine.execs_splitN 4 ?_
    simp only [List.take_succ_cons, List.take_zero, List.drop_succ_cons, List.drop_zero]
    k_steps
    · rename_i hI5 l5 h5 F5 N5
      refine Mine.rest_top (xs := [3, -5, 2, 0]) (by rfl) (by rfl) ‹Top _ _ _ _ _ _› (by rfl) (by decide +kernel) (by rfl) (by rfl) (by assumption) rfl rfl F5 N5 (if_pos rfl)
        (.tail _ (.tail _ (.tail _ (.tail _ (.tail _ (.tail _ (.head _))))))) (by assumption) (.tail _ (.tail _ (.tail _ (.tail _ (.head _))))) (.head _) ⟨rfl, _, rfl⟩ rfl
        (.cons _ _ (.cons _ _ (.cons _ _ (.cons _ _ .nil)))) hI5 (Mine.ks_ok _) (by decide) (Mine.ks_len _ (by rw [List.length_take]; exact Nat.min_le_left _ _)) (fun s' g => g)
    · rename_i hI5 l5 h5 F5 N5
      refine Mine.rest_top (by rfl) (by rfl) ‹Top _ _ _ _ _ _› (by rfl) (by decide +kernel) (by rfl) (by rfl) (by assumption) rfl rfl F5 N5 (if_pos rfl)
        (.tail _ (.tail _ (.tail _ (.tail _ (.tail _ (.tail _ (.tail _ (.head _)))))))) (by assumption) (.tail _ (.tail _ (.tail _ (.head _)))) (.head _) ⟨rfl, _, rfl⟩ rfl
        (by assumption) hI5 (Mine.ks_ok _) (by rw [List.length_map, List.length_take]; exact Nat.min_le_left _ _) (Mine.ks_len _ (by rw [List.length_take]; exact Nat.min_le_left _ _)) (fun s' g => g))
